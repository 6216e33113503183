import JvmDerived
import JvmDerived.Pilot.@@N@@Statement
import JvmDerived.Pilot.@@N@@Code
set_option linter.unusedVariables false
set_option linter.unusedSimpArgs false
namespace Jvm.RoadKit
open Sem ClassFile Op Lib Jvm.Stand Jvm.Free Jvm.LawKit
section New
variable {p : Program} {l : Launch} {e : Env} {R : Room} {s : State} {m : MethodId} {args : Array Value} {below : List Frame} {meth : Method} {c : Code} {T : State} {locs : List Loc} {cells slots : Nat}
theorem retI (X : Stand p l e R s m args below meth c T locs cells slots) (hx : p.tables.exec = Jvm.exec) {pc : Nat} {Ls : Array Slot} {z : Int32} {rest : List Value} (hret : meth.sig.returnType = some .int) (hd : decode c.code pc = .ok (.ireturn, 1)) {fs : List Frame}
    (hl : ∀ (f : JFrame) (acts : List Action), f.method = m → f.locked = none → f.entered = [] → (doReturn e (T.setTop f) acts (some (.int z))).1 = T.setFrames fs) : Steps p.tables e below (T.setTop (mkF m pc Ls (.int z :: rest))) (T.setFrames fs) := by
  have hm' : T.vm.method? m = some meth := X.method'
  have hn : narrow .int (.int z) = .int z := rfl
  show Steps p.tables e below (T.setTop { method := m, pc := pc, locals := Ls, stack := _ :: rest, locked := none }) _
  jvm_step X.here [X.here.top, hx, hd, hm', hret, hn]
  first | (intro acts; rw [hl _ acts rfl rfl rfl]) | rw [hl _ _ rfl rfl rfl]
  exact Steps.refl _
end New
end Jvm.RoadKit
namespace Jvm.Pilot.@@N@@
open Jvm Jvm.ClassFile Sem Op Lib Jvm.Free Jvm.Stand Jvm.LawKit Jvm.RoadKit Bundle Jvm.Pilot.@@N@@.Jvm.D
theorem own_eqI {args : Array Value} {s : State} {t : Jvm.Term} {k : Int32} (h : (Jvm.Cond.eq t (.int k)).value args s none s [] = some true) : t.eval args s none [] s = some (.int k) := by
  cases ht : t.eval args s none [] s with
  | none => simp [Jvm.Cond.value, ht] at h
  | some x => cases x <;> simp [Jvm.Cond.value, ht, Jvm.Term.eval] at h ⊢; exact h
theorem own_eqR {args : Array Value} {s : State} {t u : Jvm.Term} {w : Addr} (hu : u.eval args s none [] s = some (.ref w)) (h : (Jvm.Cond.eq t u).value args s none s [] = some true) : t.eval args s none [] s = some (.ref w) := by
  cases ht : t.eval args s none [] s with
  | none => simp [Jvm.Cond.value, ht] at h
  | some x => cases x <;> simp [Jvm.Cond.value, ht, hu] at h ⊢; exact h
theorem own_fldI {args : Array Value} {s : State} {t : Jvm.Term} {w : Addr} {C n d : String} {k : Int32} (ht : t.eval args s none [] s = some (.ref w)) (h : (Jvm.Cond.eq (Jvm.Term.field t C n d) (.int k)).value args s none s [] = some true) : Fld s s.heap w C n d (.int k) := Fld.start ((fld_at ht).symm.trans (own_eqI h))
theorem own_fldN {args : Array Value} {s : State} {t : Jvm.Term} {w : Addr} {C n d : String} (ht : t.eval args s none [] s = some (.ref w)) (h : (Jvm.Cond.eq (Jvm.Term.field t C n d) .null).value args s none s [] = some true) : Fld s s.heap w C n d .null := Fld.start ((fld_at ht).symm.trans (null_v h))
theorem own_fldR {args : Array Value} {s : State} {t : Jvm.Term} {w y : Addr} {C n d : String} (ht : t.eval args s none [] s = some (.ref w)) (h : (Jvm.Term.field t C n d).eval args s none [] s = some (.ref y)) : Fld s s.heap w C n d (.ref y) := Fld.start ((fld_at ht).symm.trans h)
theorem own_len {args : Array Value} {s : State} {t : Jvm.Term} {y : Addr} {cl : Cell} {ty : FieldType} {z : Int32} (ht : t.eval args s none [] s = some (.ref y)) (A : Arr s s.heap y cl ty) (h : (Jvm.Cond.eq (Jvm.Term.length t) (.int z)).value args s none s [] = some true) : cl.slots.size.toInt32 = z := by
  obtain ⟨b, cell, q⟩ := Jvm.Lib.length_spec (own_eqI h)
  have hb : y = b := Value.ref.inj (Option.some.inj (ht.symm.trans q.1))
  have hc : cell = cl := Option.some.inj (q.2.1.symm.trans (by rw [← hb]; exact IntBox.arrayAt_of A.1 A.2.1 A.2.2))
  rw [← hc]
  exact (Value.int.inj q.2.2.2).symm
theorem own_len31 {args : Array Value} {s : State} {t : Jvm.Term} {y : Addr} {cl : Cell} {ty : FieldType} {z : Int32} (ht : t.eval args s none [] s = some (.ref y)) (A : Arr s s.heap y cl ty) (h : (Jvm.Cond.eq (Jvm.Term.length t) (.int z)).value args s none s [] = some true) : cl.slots.size < 2 ^ 31 := by
  obtain ⟨b, cell, q⟩ := Jvm.Lib.length_spec (own_eqI h)
  have hb : y = b := Value.ref.inj (Option.some.inj (ht.symm.trans q.1))
  have hc : cell = cl := Option.some.inj (q.2.1.symm.trans (by rw [← hb]; exact IntBox.arrayAt_of A.1 A.2.1 A.2.2))
  rw [← hc]
  exact q.2.2.1
theorem own_c7 {y : Int32} (h0 : 0 ≤ y.toInt) (h1 : y.toInt < 7) : y = 0 ∨ y = 1 ∨ y = 2 ∨ y = 3 ∨ y = 4 ∨ y = 5 ∨ y = 6 := by
  have h : y.toInt = 0 ∨ y.toInt = 1 ∨ y.toInt = 2 ∨ y.toInt = 3 ∨ y.toInt = 4 ∨ y.toInt = 5 ∨ y.toInt = 6 := by omega
  rcases h with h | h | h | h | h | h | h <;> simp [← Int32.toInt_inj, h]
theorem own_m7 (x : Int32) : (x &&& (2147483647 : Int32)) % (7 : Int32) = (0 : Int32) ∨ (x &&& (2147483647 : Int32)) % (7 : Int32) = (1 : Int32) ∨ (x &&& (2147483647 : Int32)) % (7 : Int32) = (2 : Int32) ∨ (x &&& (2147483647 : Int32)) % (7 : Int32) = (3 : Int32) ∨ (x &&& (2147483647 : Int32)) % (7 : Int32) = (4 : Int32) ∨ (x &&& (2147483647 : Int32)) % (7 : Int32) = (5 : Int32) ∨ (x &&& (2147483647 : Int32)) % (7 : Int32) = (6 : Int32) := by
  have h := c_mask x 2147483647 31 (by decide) (by decide)
  have h2 := (c_irem (x &&& 2147483647) 7 7 (by decide)).1 (by omega)
  exact own_c7 (by omega) (by omega)
theorem own_wS : ∀ a ∈ Bundle.stringAtoms, a ∈ tables_1 := by
  intro a ha
  simp only [Bundle.stringAtoms, List.mem_cons, List.not_mem_nil, or_false] at ha
  rcases ha with rfl | rfl | rfl | rfl | rfl | rfl | rfl
  · exact List.mem_of_getElem? (i := 34) rfl
  · exact List.mem_of_getElem? (i := 35) rfl
  · exact List.mem_of_getElem? (i := 36) rfl
  · exact List.mem_of_getElem? (i := 37) rfl
  · exact List.mem_of_getElem? (i := 38) rfl
  · exact List.mem_of_getElem? (i := 39) rfl
  · exact List.mem_of_getElem? (i := 40) rfl
theorem own_d_jdk_37_2_0 : decode jdk_37_method_2_code 0 = .ok (.aload_n 0, 1) := by decide +kernel
theorem own_d_jdk_37_2_1 : decode jdk_37_method_2_code 1 = .ok (.getfield 7, 3) := by decide +kernel
theorem own_d_jdk_37_2_4 : decode jdk_37_method_2_code 4 = .ok (.ireturn, 1) := by decide +kernel
theorem own_pn0 : plainName "java/lang/Enum" = true := by first | (simp [plainName, overriddenIn]; done) | decide +kernel
theorem ef_rmO (m : MethodId) (a1 : Addr) : entryFrame m #[(.ref a1)] 1 = mkF m 0 #[.val (.ref a1)] [] := by first | (simp [entryFrame, mkF, argsToLocals, Value.category]; done) | rfl
def Q_rmO (Z : State) (a1 : Addr) (o1 : Int32) (h0 : Heap) (n0 : Nat) (v : Option Value) (h : Heap) (L : List Loc) : Prop := v = some (.int o1) ∧ Fr n0 L ∧ h = h0
set_option maxRecDepth 65536 in
set_option maxHeartbeats 40000000 in
theorem rmO (l : Launch) (Z : State) (a0 : Array Value) (hw : ∀ d ∈ tables_1, d.before a0 Z = true) (ws : List Jvm.Cond) (a1 : Addr) (o1 : Int32) (h0 : Heap) (n0 : Nat) (Z0 : n0 ≤ h0.size) (F1 : Fld Z h0 a1 "java/lang/Enum" "ordinal" "I" (.int o1)) :
    MetFree l (⟨"java/lang/Enum", "ordinal", "()I"⟩ : MethodName) (head1 (Jvm.Cond.code (⟨"java/lang/Enum", "ordinal", "()I"⟩ : MethodName) jdk_37_method_2_code 1 (some .int) :: ws) ({ frames := 0, cells := 0, slots := 0, locals := 0 } : Room)) (fun a U => a = #[(.ref a1)] ∧ Z.Warmed39 U.vm ∧ U.heap = h0) (fun _ _ _ _ _ => True) (fun _ U o U' => ∃ v L, o = .returned v ∧ Q_rmO Z a1 o1 h0 n0 (v) U'.heap (L) ∧ FrameEnd U o U' L 0 0) := by
  refine MetFree.of_bodySF (plainFor_of_name own_pn0) hisR ?_
  intro p e s m args below meth c s₁ Bd hml0 hP hK
  obtain ⟨rfl, hZ, hh⟩ := hP
  have hx := Bd.exec
  have hby := Bd.bytes
  have hml : c.maxLocals = 1 := hml0
  have hown : s.vm.findClass "java/lang/Enum" = some m.cls := findClass_of_methodNamed Bd.named
  have hnm := (name_of_methodNamed Bd.named Bd.method).1
  have X0 : Stand p l e ({ frames := 0, cells := 0, slots := 0, locals := 0 } : Room) s m #[(.ref a1)] below meth c s₁ [] 0 0 := Stand.of_body Bd
  have e0 : s₁.heap = h0 := by rw [← hh, Bd.state]; rfl
  have N0 := Fr.nil n0
  have pre0 : ∀ tgt, Steps p.tables e below (s₁.setTop (mkF m 0 #[.val (.ref a1)] [])) tgt → Steps p.tables e below (s₁.setTop (entryFrame m #[(.ref a1)] 1)) tgt := fun tgt k => castTop (ef_rmO m a1) k
  obtain ⟨T1, X1, eh1, st1⟩ := getF X0 hx hZ hown (host := "") (Or.inl (hw _ (List.mem_of_getElem? (i := 52) rfl))) Via.refl e0 F1 (g := (mkF m 1 #[.val (.ref a1)] [(.ref a1)])) rfl rfl (hb hby own_d_jdk_37_2_1)
  obtain ⟨fs, hr, hrun, hended, hW, hsame⟩ := X1.leave (v := some (.int o1)) (fun h => by rw [Bd.returns] at h; cases h)
  refine ⟨_, _, pre0 _ ?_, hrun, hended, _, _, rfl, ?_, ⟨_, rfl⟩, hW, hsame.mono (by decide) (by decide)⟩
  ·
    show Steps p.tables e below (s₁.setTop (mkF m 0 #[.val (.ref a1)] [])) _
    refine XS.aloadN X0.here hx rfl (hb hby own_d_jdk_37_2_0) rfl rfl ?_
    show Steps p.tables e below (s₁.setTop (mkF m 1 #[.val (.ref a1)] [(.ref a1)])) _
    refine st1 _ ?_
    show Steps p.tables e below (T1.setTop (mkF m 4 #[.val (.ref a1)] [(.int o1)])) _
    exact retI X1 hx Bd.returns (hb hby own_d_jdk_37_2_4) hr
  ·
    show Q_rmO Z a1 o1 h0 n0 (_) T1.heap (_)
    rw [eh1]
    exact ⟨rfl, N0, rfl⟩
theorem own_d_jdk_31_11_0 : decode jdk_31_method_11_code 0 = .ok (.aload_n 0, 1) := by decide +kernel
theorem own_d_jdk_31_11_1 : decode jdk_31_method_11_code 1 = .ok (.ifnonnull 12, 3) := by decide +kernel
theorem own_d_jdk_31_11_13 : decode jdk_31_method_11_code 13 = .ok (.aload_n 0, 1) := by decide +kernel
theorem own_d_jdk_31_11_14 : decode jdk_31_method_11_code 14 = .ok (.areturn, 1) := by decide +kernel
theorem own_pn1 : plainName "java/util/Objects" = true := by first | (simp [plainName, overriddenIn]; done) | decide +kernel
theorem ef_rmRN (m : MethodId) (a1 : Addr) (a2 : Addr) : entryFrame m #[(.ref a1), (.ref a2)] 2 = mkF m 0 #[.val (.ref a1), .val (.ref a2)] [] := by first | (simp [entryFrame, mkF, argsToLocals, Value.category]; done) | rfl
def Q_rmRN (Z : State) (a1 : Addr) (a2 : Addr) (h0 : Heap) (n0 : Nat) (v : Option Value) (h : Heap) (L : List Loc) : Prop := v = some (.ref a1) ∧ Fr n0 L ∧ h = h0
set_option maxRecDepth 65536 in
set_option maxHeartbeats 40000000 in
theorem rmRN (l : Launch) (Z : State) (a0 : Array Value) (hw : ∀ d ∈ tables_1, d.before a0 Z = true) (ws : List Jvm.Cond) (a1 : Addr) (a2 : Addr) (h0 : Heap) (n0 : Nat) (Z0 : n0 ≤ h0.size)  :
    MetFree l (⟨"java/util/Objects", "requireNonNull", "(Ljava/lang/Object;Ljava/lang/String;)Ljava/lang/Object;"⟩ : MethodName) (head1 (Jvm.Cond.code (⟨"java/util/Objects", "requireNonNull", "(Ljava/lang/Object;Ljava/lang/String;)Ljava/lang/Object;"⟩ : MethodName) jdk_31_method_11_code 2 (some (.object "java/lang/Object")) :: ws) ({ frames := 0, cells := 0, slots := 0, locals := 0 } : Room)) (fun a U => a = #[(.ref a1), (.ref a2)] ∧ Z.Warmed39 U.vm ∧ U.heap = h0) (fun _ _ _ _ _ => True) (fun _ U o U' => ∃ v L, o = .returned v ∧ Q_rmRN Z a1 a2 h0 n0 (v) U'.heap (L) ∧ FrameEnd U o U' L 0 0) := by
  refine MetFree.of_bodySF (plainFor_of_name own_pn1) hisR ?_
  intro p e s m args below meth c s₁ Bd hml0 hP hK
  obtain ⟨rfl, hZ, hh⟩ := hP
  have hx := Bd.exec
  have hby := Bd.bytes
  have hml : c.maxLocals = 2 := hml0
  have hown : s.vm.findClass "java/util/Objects" = some m.cls := findClass_of_methodNamed Bd.named
  have hnm := (name_of_methodNamed Bd.named Bd.method).1
  have X0 : Stand p l e ({ frames := 0, cells := 0, slots := 0, locals := 0 } : Room) s m #[(.ref a1), (.ref a2)] below meth c s₁ [] 0 0 := Stand.of_body Bd
  have e0 : s₁.heap = h0 := by rw [← hh, Bd.state]; rfl
  have N0 := Fr.nil n0
  have pre0 : ∀ tgt, Steps p.tables e below (s₁.setTop (mkF m 0 #[.val (.ref a1), .val (.ref a2)] [])) tgt → Steps p.tables e below (s₁.setTop (entryFrame m #[(.ref a1), (.ref a2)] 2)) tgt := fun tgt k => castTop (ef_rmRN m a1 a2) k
  obtain ⟨fs, hr, hrun, hended, hW, hsame⟩ := X0.leave (v := some (.ref a1)) (fun h => by rw [Bd.returns] at h; cases h)
  refine ⟨_, _, pre0 _ ?_, hrun, hended, _, _, rfl, ?_, ⟨_, rfl⟩, hW, hsame.mono (by decide) (by decide)⟩
  ·
    show Steps p.tables e below (s₁.setTop (mkF m 0 #[.val (.ref a1), .val (.ref a2)] [])) _
    refine XS.aloadN X0.here hx rfl (hb hby own_d_jdk_31_11_0) rfl rfl ?_
    show Steps p.tables e below (s₁.setTop (mkF m 1 #[.val (.ref a1), .val (.ref a2)] [(.ref a1)])) _
    refine XS.ifnonnullYes X0.here hx rfl (pc0 := 1) (pc' := 13) rfl (hb hby own_d_jdk_31_11_1) rfl (by decide) (by decide) ?_
    show Steps p.tables e below (s₁.setTop (mkF m 13 #[.val (.ref a1), .val (.ref a2)] [])) _
    refine XS.aloadN X0.here hx rfl (hb hby own_d_jdk_31_11_13) rfl rfl ?_
    show Steps p.tables e below (s₁.setTop (mkF m 14 #[.val (.ref a1), .val (.ref a2)] [(.ref a1)])) _
    jvm_step X0.here [X0.here.top, hx, (hb hby own_d_jdk_31_11_14), X0.method', Bd.returns, Value.isRef, FieldType.isReference]
    first | (intro acts; rw [hr _ acts rfl rfl rfl]) | rw [hr _ _ rfl rfl rfl]
    exact Steps.refl _
  ·
    show Q_rmRN Z a1 a2 h0 n0 (_) s₁.heap (_)
    rw [e0]
    exact ⟨rfl, N0, rfl⟩
theorem own_d_prog_19_6_0 : decode prog_19_method_6_code 0 = .ok (.aload_n 0, 1) := by decide +kernel
theorem own_d_prog_19_6_1 : decode prog_19_method_6_code 1 = .ok (.getstatic 13, 3) := by decide +kernel
theorem own_d_prog_19_6_4 : decode prog_19_method_6_code 4 = .ok (.if_acmp .eq 24, 3) := by decide +kernel
theorem own_d_prog_19_6_28 : decode prog_19_method_6_code 28 = .ok (.iconst 1, 1) := by decide +kernel
theorem own_d_prog_19_6_29 : decode prog_19_method_6_code 29 = .ok (.goto 4, 3) := by decide +kernel
theorem own_d_prog_19_6_33 : decode prog_19_method_6_code 33 = .ok (.ireturn, 1) := by decide +kernel
theorem own_d_prog_19_6_7 : decode prog_19_method_6_code 7 = .ok (.aload_n 0, 1) := by decide +kernel
theorem own_d_prog_19_6_8 : decode prog_19_method_6_code 8 = .ok (.getstatic 16, 3) := by decide +kernel
theorem own_d_prog_19_6_11 : decode prog_19_method_6_code 11 = .ok (.if_acmp .eq 17, 3) := by decide +kernel
theorem own_d_prog_19_6_14 : decode prog_19_method_6_code 14 = .ok (.aload_n 0, 1) := by decide +kernel
theorem own_d_prog_19_6_15 : decode prog_19_method_6_code 15 = .ok (.getstatic 19, 3) := by decide +kernel
theorem own_d_prog_19_6_18 : decode prog_19_method_6_code 18 = .ok (.if_acmp .eq 10, 3) := by decide +kernel
theorem own_d_prog_19_6_21 : decode prog_19_method_6_code 21 = .ok (.aload_n 0, 1) := by decide +kernel
theorem own_d_prog_19_6_22 : decode prog_19_method_6_code 22 = .ok (.getstatic 22, 3) := by decide +kernel
theorem own_d_prog_19_6_25 : decode prog_19_method_6_code 25 = .ok (.if_acmp .ne 7, 3) := by decide +kernel
theorem own_d_prog_19_6_32 : decode prog_19_method_6_code 32 = .ok (.iconst 0, 1) := by decide +kernel
theorem own_pn2 : plainName "com/example/workd/workd/model/JobState" = true := by first | (simp [plainName, overriddenIn]; done) | decide +kernel
theorem ef_rmE (m : MethodId) (a1 : Addr) : entryFrame m #[(.ref a1)] 1 = mkF m 0 #[.val (.ref a1)] [] := by first | (simp [entryFrame, mkF, argsToLocals, Value.category]; done) | rfl
def Q_rmE (Z : State) (a1 : Addr) (w3 : Addr) (w4 : Addr) (w5 : Addr) (w6 : Addr) (r : Int32) (h0 : Heap) (n0 : Nat) (v : Option Value) (h : Heap) (L : List Loc) : Prop := v = some (.int r) ∧ Fr n0 L ∧ h = h0
set_option maxRecDepth 65536 in
set_option maxHeartbeats 40000000 in
theorem rmE (l : Launch) (Z : State) (a0 : Array Value) (hw : ∀ d ∈ tables_1, d.before a0 Z = true) (ws : List Jvm.Cond) (a1 : Addr) (w3 : Addr) (w4 : Addr) (w5 : Addr) (w6 : Addr) (r : Int32) (h0 : Heap) (n0 : Nat) (Z0 : n0 ≤ h0.size) (S3 : Sta Z h0 "com/example/workd/workd/model/JobState" "COMPLETED" "Lcom/example/workd/workd/model/JobState;" (.ref w3)) (S4 : Sta Z h0 "com/example/workd/workd/model/JobState" "FAILED" "Lcom/example/workd/workd/model/JobState;" (.ref w4)) (S5 : Sta Z h0 "com/example/workd/workd/model/JobState" "TIMED_OUT" "Lcom/example/workd/workd/model/JobState;" (.ref w5)) (S6 : Sta Z h0 "com/example/workd/workd/model/JobState" "CANCELLED" "Lcom/example/workd/workd/model/JobState;" (.ref w6)) (hr1 : r = if a1 = w3 then 1 else if a1 = w4 then 1 else if a1 = w5 then 1 else if a1 = w6 then 1 else 0) :
    MetFree l (⟨"com/example/workd/workd/model/JobState", "isEndState", "()Z"⟩ : MethodName) (head1 (Jvm.Cond.code (⟨"com/example/workd/workd/model/JobState", "isEndState", "()Z"⟩ : MethodName) prog_19_method_6_code 1 (some .boolean) :: ws) ({ frames := 0, cells := 0, slots := 0, locals := 0 } : Room)) (fun a U => a = #[(.ref a1)] ∧ Z.Warmed39 U.vm ∧ U.heap = h0) (fun _ _ _ _ _ => True) (fun _ U o U' => ∃ v L, o = .returned v ∧ Q_rmE Z a1 w3 w4 w5 w6 r h0 n0 (v) U'.heap (L) ∧ FrameEnd U o U' L 0 0) := by
  refine MetFree.of_bodySF (plainFor_of_name own_pn2) hisR ?_
  intro p e s m args below meth c s₁ Bd hml0 hP hK
  obtain ⟨rfl, hZ, hh⟩ := hP
  have hx := Bd.exec
  have hby := Bd.bytes
  have hml : c.maxLocals = 1 := hml0
  have hown : s.vm.findClass "com/example/workd/workd/model/JobState" = some m.cls := findClass_of_methodNamed Bd.named
  have hnm := (name_of_methodNamed Bd.named Bd.method).1
  have X0 : Stand p l e ({ frames := 0, cells := 0, slots := 0, locals := 0 } : Room) s m #[(.ref a1)] below meth c s₁ [] 0 0 := Stand.of_body Bd
  have e0 : s₁.heap = h0 := by rw [← hh, Bd.state]; rfl
  have N0 := Fr.nil n0
  have pre0 : ∀ tgt, Steps p.tables e below (s₁.setTop (mkF m 0 #[.val (.ref a1)] [])) tgt → Steps p.tables e below (s₁.setTop (entryFrame m #[(.ref a1)] 1)) tgt := fun tgt k => castTop (ef_rmE m a1) k
  obtain ⟨T1, X1, eh1, st1⟩ := getS2 X0 hx hZ hown (host := "") (Or.inl (hw _ (List.mem_of_getElem? (i := 24) rfl))) Via.refl e0 S3 (g := (mkF m 1 #[.val (.ref a1)] [(.ref a1)])) rfl (hb hby own_d_prog_19_6_1)
  have pre2 : ∀ tgt, Steps p.tables e below (T1.setTop (mkF m 4 #[.val (.ref a1)] [(.ref w3), (.ref a1)])) tgt → Steps p.tables e below (s₁.setTop (entryFrame m #[(.ref a1)] 1)) tgt := fun tgt kt_ => by
    refine pre0 _ ?_
    show Steps p.tables e below (s₁.setTop (mkF m 0 #[.val (.ref a1)] [])) _
    refine XS.aloadN X0.here hx rfl (hb hby own_d_prog_19_6_0) rfl rfl ?_
    show Steps p.tables e below (s₁.setTop (mkF m 1 #[.val (.ref a1)] [(.ref a1)])) _
    refine st1 _ ?_
    show Steps p.tables e below (T1.setTop (mkF m 4 #[.val (.ref a1)] [(.ref w3), (.ref a1)])) _
    exact kt_
  rcases Decidable.em (a1 = w3) with ha4_3 | ha4_3
  ·
    obtain ⟨fs, hr, hrun, hended, hW, hsame⟩ := X1.leave (v := some (.int (1 : Int32))) (fun h => by rw [Bd.returns] at h; cases h)
    refine ⟨_, _, pre2 _ ?_, hrun, hended, _, _, rfl, ?_, ⟨_, rfl⟩, hW, hsame.mono (by decide) (by decide)⟩
    ·
      show Steps p.tables e below (T1.setTop (mkF m 4 #[.val (.ref a1)] [(.ref w3), (.ref a1)])) _
      refine Jvm.RoadKit.acmp (g := (mkF m 4 #[.val (.ref a1)] [(.ref w3), (.ref a1)])) X1 hx rfl rfl rfl (pc0 := 4) (pc' := 28) (same := true) rfl (hb hby own_d_prog_19_6_4) rfl (decide_eq_true (congrArg Value.ref ha4_3)) (by decide) (by decide) ?_
      show Steps p.tables e below (T1.setTop (mkF m 28 #[.val (.ref a1)] [])) _
      refine XS.iconst X1.here hx rfl (hb hby own_d_prog_19_6_28) ?_
      show Steps p.tables e below (T1.setTop (mkF m 29 #[.val (.ref a1)] [(.int (1 : Int32))])) _
      refine XS.goto X1.here hx rfl (pc0 := 29) (pc' := 33) rfl (hb hby own_d_prog_19_6_29) (by decide) (by decide) ?_
      show Steps p.tables e below (T1.setTop (mkF m 33 #[.val (.ref a1)] [(.int (1 : Int32))])) _
      exact retN X1 hx (t := .boolean) Bd.returns (by simp) (hb hby own_d_prog_19_6_33) hr
    ·
      show Q_rmE Z a1 w3 w4 w5 w6 r h0 n0 (_) T1.heap (_)
      rw [eh1]
      exact ⟨by rw [hr1, if_pos ha4_3], N0, rfl⟩
  ·
    obtain ⟨T4, X4, eh4, st4⟩ := getS2 X1 hx hZ hown (host := "") (Or.inl (hw _ (List.mem_of_getElem? (i := 25) rfl))) Via.refl eh1 S4 (g := (mkF m 8 #[.val (.ref a1)] [(.ref a1)])) rfl (hb hby own_d_prog_19_6_8)
    have pre5 : ∀ tgt, Steps p.tables e below (T4.setTop (mkF m 11 #[.val (.ref a1)] [(.ref w4), (.ref a1)])) tgt → Steps p.tables e below (s₁.setTop (entryFrame m #[(.ref a1)] 1)) tgt := fun tgt kt_ => by
      refine pre2 _ ?_
      show Steps p.tables e below (T1.setTop (mkF m 4 #[.val (.ref a1)] [(.ref w3), (.ref a1)])) _
      refine Jvm.RoadKit.acmp (g := (mkF m 4 #[.val (.ref a1)] [(.ref w3), (.ref a1)])) X1 hx rfl rfl rfl (pc0 := 4) (pc' := 7) (same := false) rfl (hb hby own_d_prog_19_6_4) rfl (decide_eq_false fun q => ha4_3 (Value.ref.inj q)) (by decide) (by decide) ?_
      show Steps p.tables e below (T1.setTop (mkF m 7 #[.val (.ref a1)] [])) _
      refine XS.aloadN X1.here hx rfl (hb hby own_d_prog_19_6_7) rfl rfl ?_
      show Steps p.tables e below (T1.setTop (mkF m 8 #[.val (.ref a1)] [(.ref a1)])) _
      refine st4 _ ?_
      show Steps p.tables e below (T4.setTop (mkF m 11 #[.val (.ref a1)] [(.ref w4), (.ref a1)])) _
      exact kt_
    rcases Decidable.em (a1 = w4) with ha11_6 | ha11_6
    ·
      obtain ⟨fs, hr, hrun, hended, hW, hsame⟩ := X4.leave (v := some (.int (1 : Int32))) (fun h => by rw [Bd.returns] at h; cases h)
      refine ⟨_, _, pre5 _ ?_, hrun, hended, _, _, rfl, ?_, ⟨_, rfl⟩, hW, hsame.mono (by decide) (by decide)⟩
      ·
        show Steps p.tables e below (T4.setTop (mkF m 11 #[.val (.ref a1)] [(.ref w4), (.ref a1)])) _
        refine Jvm.RoadKit.acmp (g := (mkF m 11 #[.val (.ref a1)] [(.ref w4), (.ref a1)])) X4 hx rfl rfl rfl (pc0 := 11) (pc' := 28) (same := true) rfl (hb hby own_d_prog_19_6_11) rfl (decide_eq_true (congrArg Value.ref ha11_6)) (by decide) (by decide) ?_
        show Steps p.tables e below (T4.setTop (mkF m 28 #[.val (.ref a1)] [])) _
        refine XS.iconst X4.here hx rfl (hb hby own_d_prog_19_6_28) ?_
        show Steps p.tables e below (T4.setTop (mkF m 29 #[.val (.ref a1)] [(.int (1 : Int32))])) _
        refine XS.goto X4.here hx rfl (pc0 := 29) (pc' := 33) rfl (hb hby own_d_prog_19_6_29) (by decide) (by decide) ?_
        show Steps p.tables e below (T4.setTop (mkF m 33 #[.val (.ref a1)] [(.int (1 : Int32))])) _
        exact retN X4 hx (t := .boolean) Bd.returns (by simp) (hb hby own_d_prog_19_6_33) hr
      ·
        show Q_rmE Z a1 w3 w4 w5 w6 r h0 n0 (_) T4.heap (_)
        rw [eh4]
        exact ⟨by rw [hr1, if_neg ha4_3, if_pos ha11_6], N0, rfl⟩
    ·
      obtain ⟨T7, X7, eh7, st7⟩ := getS2 X4 hx hZ hown (host := "") (Or.inl (hw _ (List.mem_of_getElem? (i := 26) rfl))) Via.refl eh4 S5 (g := (mkF m 15 #[.val (.ref a1)] [(.ref a1)])) rfl (hb hby own_d_prog_19_6_15)
      have pre8 : ∀ tgt, Steps p.tables e below (T7.setTop (mkF m 18 #[.val (.ref a1)] [(.ref w5), (.ref a1)])) tgt → Steps p.tables e below (s₁.setTop (entryFrame m #[(.ref a1)] 1)) tgt := fun tgt kt_ => by
        refine pre5 _ ?_
        show Steps p.tables e below (T4.setTop (mkF m 11 #[.val (.ref a1)] [(.ref w4), (.ref a1)])) _
        refine Jvm.RoadKit.acmp (g := (mkF m 11 #[.val (.ref a1)] [(.ref w4), (.ref a1)])) X4 hx rfl rfl rfl (pc0 := 11) (pc' := 14) (same := false) rfl (hb hby own_d_prog_19_6_11) rfl (decide_eq_false fun q => ha11_6 (Value.ref.inj q)) (by decide) (by decide) ?_
        show Steps p.tables e below (T4.setTop (mkF m 14 #[.val (.ref a1)] [])) _
        refine XS.aloadN X4.here hx rfl (hb hby own_d_prog_19_6_14) rfl rfl ?_
        show Steps p.tables e below (T4.setTop (mkF m 15 #[.val (.ref a1)] [(.ref a1)])) _
        refine st7 _ ?_
        show Steps p.tables e below (T7.setTop (mkF m 18 #[.val (.ref a1)] [(.ref w5), (.ref a1)])) _
        exact kt_
      rcases Decidable.em (a1 = w5) with ha18_9 | ha18_9
      ·
        obtain ⟨fs, hr, hrun, hended, hW, hsame⟩ := X7.leave (v := some (.int (1 : Int32))) (fun h => by rw [Bd.returns] at h; cases h)
        refine ⟨_, _, pre8 _ ?_, hrun, hended, _, _, rfl, ?_, ⟨_, rfl⟩, hW, hsame.mono (by decide) (by decide)⟩
        ·
          show Steps p.tables e below (T7.setTop (mkF m 18 #[.val (.ref a1)] [(.ref w5), (.ref a1)])) _
          refine Jvm.RoadKit.acmp (g := (mkF m 18 #[.val (.ref a1)] [(.ref w5), (.ref a1)])) X7 hx rfl rfl rfl (pc0 := 18) (pc' := 28) (same := true) rfl (hb hby own_d_prog_19_6_18) rfl (decide_eq_true (congrArg Value.ref ha18_9)) (by decide) (by decide) ?_
          show Steps p.tables e below (T7.setTop (mkF m 28 #[.val (.ref a1)] [])) _
          refine XS.iconst X7.here hx rfl (hb hby own_d_prog_19_6_28) ?_
          show Steps p.tables e below (T7.setTop (mkF m 29 #[.val (.ref a1)] [(.int (1 : Int32))])) _
          refine XS.goto X7.here hx rfl (pc0 := 29) (pc' := 33) rfl (hb hby own_d_prog_19_6_29) (by decide) (by decide) ?_
          show Steps p.tables e below (T7.setTop (mkF m 33 #[.val (.ref a1)] [(.int (1 : Int32))])) _
          exact retN X7 hx (t := .boolean) Bd.returns (by simp) (hb hby own_d_prog_19_6_33) hr
        ·
          show Q_rmE Z a1 w3 w4 w5 w6 r h0 n0 (_) T7.heap (_)
          rw [eh7]
          exact ⟨by rw [hr1, if_neg ha4_3, if_neg ha11_6, if_pos ha18_9], N0, rfl⟩
      ·
        obtain ⟨T10, X10, eh10, st10⟩ := getS2 X7 hx hZ hown (host := "") (Or.inl (hw _ (List.mem_of_getElem? (i := 27) rfl))) Via.refl eh7 S6 (g := (mkF m 22 #[.val (.ref a1)] [(.ref a1)])) rfl (hb hby own_d_prog_19_6_22)
        have pre11 : ∀ tgt, Steps p.tables e below (T10.setTop (mkF m 25 #[.val (.ref a1)] [(.ref w6), (.ref a1)])) tgt → Steps p.tables e below (s₁.setTop (entryFrame m #[(.ref a1)] 1)) tgt := fun tgt kt_ => by
          refine pre8 _ ?_
          show Steps p.tables e below (T7.setTop (mkF m 18 #[.val (.ref a1)] [(.ref w5), (.ref a1)])) _
          refine Jvm.RoadKit.acmp (g := (mkF m 18 #[.val (.ref a1)] [(.ref w5), (.ref a1)])) X7 hx rfl rfl rfl (pc0 := 18) (pc' := 21) (same := false) rfl (hb hby own_d_prog_19_6_18) rfl (decide_eq_false fun q => ha18_9 (Value.ref.inj q)) (by decide) (by decide) ?_
          show Steps p.tables e below (T7.setTop (mkF m 21 #[.val (.ref a1)] [])) _
          refine XS.aloadN X7.here hx rfl (hb hby own_d_prog_19_6_21) rfl rfl ?_
          show Steps p.tables e below (T7.setTop (mkF m 22 #[.val (.ref a1)] [(.ref a1)])) _
          refine st10 _ ?_
          show Steps p.tables e below (T10.setTop (mkF m 25 #[.val (.ref a1)] [(.ref w6), (.ref a1)])) _
          exact kt_
        rcases Decidable.em (a1 = w6) with ha25_12 | ha25_12
        ·
          obtain ⟨fs, hr, hrun, hended, hW, hsame⟩ := X10.leave (v := some (.int (1 : Int32))) (fun h => by rw [Bd.returns] at h; cases h)
          refine ⟨_, _, pre11 _ ?_, hrun, hended, _, _, rfl, ?_, ⟨_, rfl⟩, hW, hsame.mono (by decide) (by decide)⟩
          ·
            show Steps p.tables e below (T10.setTop (mkF m 25 #[.val (.ref a1)] [(.ref w6), (.ref a1)])) _
            refine Jvm.RoadKit.acmp (g := (mkF m 25 #[.val (.ref a1)] [(.ref w6), (.ref a1)])) X10 hx rfl rfl rfl (pc0 := 25) (pc' := 28) (same := true) rfl (hb hby own_d_prog_19_6_25) rfl (decide_eq_true (congrArg Value.ref ha25_12)) (by decide) (by decide) ?_
            show Steps p.tables e below (T10.setTop (mkF m 28 #[.val (.ref a1)] [])) _
            refine XS.iconst X10.here hx rfl (hb hby own_d_prog_19_6_28) ?_
            show Steps p.tables e below (T10.setTop (mkF m 29 #[.val (.ref a1)] [(.int (1 : Int32))])) _
            refine XS.goto X10.here hx rfl (pc0 := 29) (pc' := 33) rfl (hb hby own_d_prog_19_6_29) (by decide) (by decide) ?_
            show Steps p.tables e below (T10.setTop (mkF m 33 #[.val (.ref a1)] [(.int (1 : Int32))])) _
            exact retN X10 hx (t := .boolean) Bd.returns (by simp) (hb hby own_d_prog_19_6_33) hr
          ·
            show Q_rmE Z a1 w3 w4 w5 w6 r h0 n0 (_) T10.heap (_)
            rw [eh10]
            exact ⟨by rw [hr1, if_neg ha4_3, if_neg ha11_6, if_neg ha18_9, if_pos ha25_12], N0, rfl⟩
        ·
          obtain ⟨fs, hr, hrun, hended, hW, hsame⟩ := X10.leave (v := some (.int (0 : Int32))) (fun h => by rw [Bd.returns] at h; cases h)
          refine ⟨_, _, pre11 _ ?_, hrun, hended, _, _, rfl, ?_, ⟨_, rfl⟩, hW, hsame.mono (by decide) (by decide)⟩
          ·
            show Steps p.tables e below (T10.setTop (mkF m 25 #[.val (.ref a1)] [(.ref w6), (.ref a1)])) _
            refine Jvm.RoadKit.acmp (g := (mkF m 25 #[.val (.ref a1)] [(.ref w6), (.ref a1)])) X10 hx rfl rfl rfl (pc0 := 25) (pc' := 32) (same := false) rfl (hb hby own_d_prog_19_6_25) rfl (decide_eq_false fun q => ha25_12 (Value.ref.inj q)) (by decide) (by decide) ?_
            show Steps p.tables e below (T10.setTop (mkF m 32 #[.val (.ref a1)] [])) _
            refine XS.iconst X10.here hx rfl (hb hby own_d_prog_19_6_32) ?_
            show Steps p.tables e below (T10.setTop (mkF m 33 #[.val (.ref a1)] [(.int (0 : Int32))])) _
            exact retN X10 hx (t := .boolean) Bd.returns (by simp) (hb hby own_d_prog_19_6_33) hr
          ·
            show Q_rmE Z a1 w3 w4 w5 w6 r h0 n0 (_) T10.heap (_)
            rw [eh10]
            exact ⟨by rw [hr1, if_neg ha4_3, if_neg ha11_6, if_neg ha18_9, if_neg ha25_12], N0, rfl⟩
theorem own_d_prog_19_7_0 : decode prog_19_method_7_code 0 = .ok (.aload_n 1, 1) := by decide +kernel
theorem own_d_prog_19_7_1 : decode prog_19_method_7_code 1 = .ok (.ldc 56, 2) := by decide +kernel
theorem own_d_prog_19_7_3 : decode prog_19_method_7_code 3 = .ok (.invokestatic 58, 3) := by decide +kernel
theorem own_pd0 : parseMethodDescriptor "(Ljava/lang/Object;Ljava/lang/String;)Ljava/lang/Object;" = some ⟨[(.object "java/lang/Object"), (.object "java/lang/String")], some (.object "java/lang/Object")⟩ := by decide +kernel
theorem own_d_prog_19_7_6 : decode prog_19_method_7_code 6 = .ok (.pop, 1) := by decide +kernel
theorem own_d_prog_19_7_7 : decode prog_19_method_7_code 7 = .ok (.aload_n 0, 1) := by decide +kernel
theorem own_d_prog_19_7_8 : decode prog_19_method_7_code 8 = .ok (.invokevirtual 64, 3) := by decide +kernel
theorem own_pd1 : parseMethodDescriptor "()I" = some ⟨[], some .int⟩ := by decide +kernel
theorem own_d_prog_19_7_11 : decode prog_19_method_7_code 11 = .ok (.tableswitch 41 0 6 #[51, 73, 109, 131, 131, 131, 131], 41) := by decide +kernel
theorem own_d_prog_19_7_142 : decode prog_19_method_7_code 142 = .ok (.iconst 0, 1) := by decide +kernel
theorem own_d_prog_19_7_143 : decode prog_19_method_7_code 143 = .ok (.istore_n 2, 1) := by decide +kernel
theorem own_d_prog_19_7_144 : decode prog_19_method_7_code 144 = .ok (.iload_n 2, 1) := by decide +kernel
theorem own_d_prog_19_7_145 : decode prog_19_method_7_code 145 = .ok (.ireturn, 1) := by decide +kernel
theorem ef_rmM3 (m : MethodId) (a1 : Addr) (a2 : Addr) : entryFrame m #[(.ref a1), (.ref a2)] 3 = mkF m 0 #[.val (.ref a1), .val (.ref a2), .unset] [] := by first | (simp [entryFrame, mkF, argsToLocals, Value.category]; done) | rfl
def Q_rmM3 (Z : State) (a1 : Addr) (a2 : Addr) (h0 : Heap) (n0 : Nat) (v : Option Value) (h : Heap) (L : List Loc) : Prop := v = some (.int 0) ∧ Fr n0 L ∧ Keep h0 h []
set_option maxRecDepth 65536 in
set_option maxHeartbeats 40000000 in
theorem rmM3 (l : Launch) (Z : State) (a0 : Array Value) (hw : ∀ d ∈ tables_1, d.before a0 Z = true) (ws : List Jvm.Cond) (a1 : Addr) (a2 : Addr) (h0 : Heap) (n0 : Nat) (Z0 : n0 ≤ h0.size) (E1 : Exa Z h0 a1 "com/example/workd/workd/model/JobState") (F1 : Fld Z h0 a1 "java/lang/Enum" "ordinal" "I" (.int (3 : Int32))) :
    MetFree l (⟨"com/example/workd/workd/model/JobState", "canMoveTo", "(Lcom/example/workd/workd/model/JobState;)Z"⟩ : MethodName) (head1 (Jvm.Cond.code (⟨"com/example/workd/workd/model/JobState", "canMoveTo", "(Lcom/example/workd/workd/model/JobState;)Z"⟩ : MethodName) prog_19_method_7_code 3 (some .boolean) :: ws) ({ frames := 1, cells := 2, slots := 20, locals := 13 } : Room)) (fun a U => a = #[(.ref a1), (.ref a2)] ∧ Z.Warmed39 U.vm ∧ U.heap = h0) (fun _ _ _ _ _ => True) (fun _ U o U' => ∃ v L, o = .returned v ∧ Q_rmM3 Z a1 a2 h0 n0 (v) U'.heap (L) ∧ ReturnedEndW U o U' L 2 20) := by
  refine MetFree.of_bodySF (plainFor_of_name own_pn2) hisR ?_
  intro p e s m args below meth c s₁ Bd hml0 hP hK
  obtain ⟨rfl, hZ, hh⟩ := hP
  have hx := Bd.exec
  have hby := Bd.bytes
  have hml : c.maxLocals = 3 := hml0
  have hown : s.vm.findClass "com/example/workd/workd/model/JobState" = some m.cls := findClass_of_methodNamed Bd.named
  have hnm := (name_of_methodNamed Bd.named Bd.method).1
  have X0 : Stand p l e ({ frames := 1, cells := 2, slots := 20, locals := 13 } : Room) s m #[(.ref a1), (.ref a2)] below meth c s₁ [] 0 0 := Stand.of_body Bd
  have e0 : s₁.heap = h0 := by rw [← hh, Bd.state]; rfl
  have N0 := Fr.nil n0
  have pre0 : ∀ tgt, Steps p.tables e below (s₁.setTop (mkF m 0 #[.val (.ref a1), .val (.ref a2), .unset] [])) tgt → Steps p.tables e below (s₁.setTop (entryFrame m #[(.ref a1), (.ref a2)] 3)) tgt := fun tgt k => castTop (ef_rmM3 m a1 a2) k
  have pre1 : ∀ tgt, Steps p.tables e below (s₁.setTop (mkF m 1 #[.val (.ref a1), .val (.ref a2), .unset] [(.ref a2)])) tgt → Steps p.tables e below (s₁.setTop (entryFrame m #[(.ref a1), (.ref a2)] 3)) tgt := fun tgt kt_ => by
    refine pre0 _ ?_
    show Steps p.tables e below (s₁.setTop (mkF m 0 #[.val (.ref a1), .val (.ref a2), .unset] [])) _
    refine XS.aloadN X0.here hx rfl (hb hby own_d_prog_19_7_0) rfl rfl ?_
    show Steps p.tables e below (s₁.setTop (mkF m 1 #[.val (.ref a1), .val (.ref a2), .unset] [(.ref a2)])) _
    exact kt_
  obtain ⟨al2, T2, h2, kk2, X2, eh2, Ee2, Sn2, Sk2, hZ2, hown2, st2⟩ := ldcS (s := s) (vm0 := s.vm) X0 hx hZ hown (hw _ (List.mem_of_getElem? (i := 33) rfl)) (fun d hd => hw d (own_wS d hd)) e0 ((State.WarmedH.refl s).since h0.size) (Nat.le_refl _) (g := (mkF m 1 #[.val (.ref a1), .val (.ref a2), .unset] [(.ref a2)])) rfl (hb hby own_d_prog_19_7_1) (n := 16) (by decide) (by decide) (by decide) (by decide)
  have Zs3 : n0 ≤ h2.size := Nat.le_trans Z0 Ee2.1
  have Kp3 : Keep h0 h2 [] := (Keep.refl h0 []).ext Ee2
  obtain ⟨_, _, ⟨T4, L4, k4, n4⟩, -, X4, ⟨Lc4, hQ4, l4, y4, z4⟩, st4⟩ := Jvm.LawKit.callS X2 hx (y := (⟨"java/util/Objects", "requireNonNull", "(Ljava/lang/Object;Ljava/lang/String;)Ljava/lang/Object;"⟩ : MethodName)) hown2 (mvT hZ2 (hw _ (List.mem_of_getElem? (i := 41) rfl))) (mvT hZ2 (hw _ (List.mem_of_getElem? (i := 42) rfl))) (mvT hZ2 (hw _ (List.mem_of_getElem? (i := 43) rfl))) (mvT hZ2 (hw _ (List.mem_of_getElem? (i := 44) rfl))) (by decide) (backOf (W := 0) (rmRN l Z a0 hw [] a2 al2 h2 n0 Zs3 ) hZ2 (hw _ (List.mem_of_getElem? (i := 44) rfl)) (hw _ (List.mem_of_getElem? (i := 43) rfl)) (by decide) (by decide)) (g := (mkF m 3 #[.val (.ref a1), .val (.ref a2), .unset] [(.ref al2), (.ref a2)])) rfl (by rw [hml]; rfl) (argsL := [(.ref a2), (.ref al2)]) (rest := []) (lenOf own_pd0 rfl) rfl (by show 2 * 0 + _ ≤ _; exact Nat.le_of_eq rfl) (hb hby own_d_prog_19_7_3) (fun _ _ => ⟨rfl, eh2, (by decide : 2 + 0 ≤ _), (by decide : 20 + 0 ≤ _)⟩)
  dsimp only [Pt.U, Pt.locs, Pt.cells, Pt.slots] at X4 l4 y4 z4 st4 hQ4
  subst l4 y4 z4
  obtain ⟨rfl, N4q, eq4⟩ := hQ4
  have N4 := Fr.app N0 N4q
  have c5 := (E1.ext Ee2)
  have c6 := (F1.ext Ee2)
  obtain ⟨cq7, kq7, q7a, q7b, q7c⟩ := isOf hZ2 eq4 c5
  obtain ⟨_, _, ⟨T7, L7, k7, n7⟩, -, X7, ⟨Lc7, hQ7, l7, y7, z7⟩, st7⟩ := X4.virtualBackUp hx (x := (⟨"com/example/workd/workd/model/JobState", "ordinal", "()I"⟩ : MethodName)) (y := (⟨"java/lang/Enum", "ordinal", "()I"⟩ : MethodName)) (owner := "java/lang/Enum") hown2 (mvT hZ2 (hw _ (List.mem_of_getElem? (i := 45) rfl))) (mvT hZ2 (hw _ (List.mem_of_getElem? (i := 46) rfl))) (mvT hZ2 (hw _ (List.mem_of_getElem? (i := 47) rfl))) (by decide) (mvT hZ2 (hw _ (List.mem_of_getElem? (i := 49) rfl))) (mvT hZ2 (hw _ (List.mem_of_getElem? (i := 48) rfl))) (backOf (W := 0) (rmO l Z a0 hw [] a1 (3 : Int32) h2 n0 Zs3 c6) hZ2 (hw _ (List.mem_of_getElem? (i := 51) rfl)) (hw _ (List.mem_of_getElem? (i := 50) rfl)) (by decide) (by decide)) q7a q7c (g := (mkF m 8 #[.val (.ref a1), .val (.ref a2), .unset] [(.ref a1)])) rfl (by rw [hml]; rfl) (Steps.refl _) (argsL := []) (rest := []) (lenOf own_pd1 rfl) rfl (by show 2 * 0 + _ ≤ _; exact Nat.le_of_eq rfl) (hb hby own_d_prog_19_7_8) (fun _ _ => ⟨rfl, eq4, (by decide : 2 + 0 ≤ _), (by decide : 20 + 0 ≤ _)⟩)
  dsimp only [Pt.U, Pt.locs, Pt.cells, Pt.slots] at X7 l7 y7 z7 st7 hQ7
  subst l7 y7 z7
  obtain ⟨rfl, N7q, eq7⟩ := hQ7
  have N7 := Fr.app N4 N7q
  obtain ⟨fs, hr, hrun, hended, hRE⟩ := Stand.leaveW (s := s) X7 Sn2 (by rw [eq7]; exact Sk2) (v := some (.int (0 : Int32))) (fun h => by rw [Bd.returns] at h; cases h)
  refine ⟨_, _, pre1 _ ?_, hrun, hended, _, _, rfl, ?_, hRE.1, hRE.2.1, hRE.2.2.1, hRE.2.2.2.mono (by decide) (by decide)⟩
  ·
    show Steps p.tables e below (s₁.setTop (mkF m 1 #[.val (.ref a1), .val (.ref a2), .unset] [(.ref a2)])) _
    refine st2 _ ?_
    show Steps p.tables e below (T2.setTop (mkF m 3 #[.val (.ref a1), .val (.ref a2), .unset] [(.ref al2), (.ref a2)])) _
    refine st4 _ ?_
    show Steps p.tables e below (T4.setTop (mkF m 6 #[.val (.ref a1), .val (.ref a2), .unset] [(.ref a2)])) _
    refine XS.pop X4.here hx rfl (hb hby own_d_prog_19_7_6) rfl rfl ?_
    show Steps p.tables e below (T4.setTop (mkF m 7 #[.val (.ref a1), .val (.ref a2), .unset] [])) _
    refine XS.aloadN X4.here hx rfl (hb hby own_d_prog_19_7_7) rfl rfl ?_
    show Steps p.tables e below (T4.setTop (mkF m 8 #[.val (.ref a1), .val (.ref a2), .unset] [(.ref a1)])) _
    refine st7.trans ?_
    show Steps p.tables e below (T7.setTop (mkF m 11 #[.val (.ref a1), .val (.ref a2), .unset] [(.int (3 : Int32))])) _
    refine XS.tswIn X7.here hx rfl (pc0 := 11) (pc' := 142) (o := 131) rfl (hb hby own_d_prog_19_7_11) rfl (by decide) (by decide) (by decide) (by decide) ?_
    show Steps p.tables e below (T7.setTop (mkF m 142 #[.val (.ref a1), .val (.ref a2), .unset] [])) _
    refine XS.iconst X7.here hx rfl (hb hby own_d_prog_19_7_142) ?_
    show Steps p.tables e below (T7.setTop (mkF m 143 #[.val (.ref a1), .val (.ref a2), .unset] [(.int (0 : Int32))])) _
    refine XS.istoreN X7.here hx rfl (hb hby own_d_prog_19_7_143) rfl (l' := #[.val (.ref a1), .val (.ref a2), .val (.int (0 : Int32))]) rfl ?_
    show Steps p.tables e below (T7.setTop (mkF m 144 #[.val (.ref a1), .val (.ref a2), .val (.int (0 : Int32))] [])) _
    refine XS.iloadN X7.here hx rfl (hb hby own_d_prog_19_7_144) rfl ?_
    show Steps p.tables e below (T7.setTop (mkF m 145 #[.val (.ref a1), .val (.ref a2), .val (.int (0 : Int32))] [(.int (0 : Int32))])) _
    exact retN X7 hx (t := .boolean) Bd.returns (by simp) (hb hby own_d_prog_19_7_145) hr
  ·
    show Q_rmM3 Z a1 a2 h0 n0 (_) T7.heap (_)
    rw [eq7]
    exact ⟨rfl, N7, Kp3⟩
theorem ef_rmM4 (m : MethodId) (a1 : Addr) (a2 : Addr) : entryFrame m #[(.ref a1), (.ref a2)] 3 = mkF m 0 #[.val (.ref a1), .val (.ref a2), .unset] [] := by first | (simp [entryFrame, mkF, argsToLocals, Value.category]; done) | rfl
def Q_rmM4 (Z : State) (a1 : Addr) (a2 : Addr) (h0 : Heap) (n0 : Nat) (v : Option Value) (h : Heap) (L : List Loc) : Prop := v = some (.int 0) ∧ Fr n0 L ∧ Keep h0 h []
set_option maxRecDepth 65536 in
set_option maxHeartbeats 40000000 in
theorem rmM4 (l : Launch) (Z : State) (a0 : Array Value) (hw : ∀ d ∈ tables_1, d.before a0 Z = true) (ws : List Jvm.Cond) (a1 : Addr) (a2 : Addr) (h0 : Heap) (n0 : Nat) (Z0 : n0 ≤ h0.size) (E1 : Exa Z h0 a1 "com/example/workd/workd/model/JobState") (F1 : Fld Z h0 a1 "java/lang/Enum" "ordinal" "I" (.int (4 : Int32))) :
    MetFree l (⟨"com/example/workd/workd/model/JobState", "canMoveTo", "(Lcom/example/workd/workd/model/JobState;)Z"⟩ : MethodName) (head1 (Jvm.Cond.code (⟨"com/example/workd/workd/model/JobState", "canMoveTo", "(Lcom/example/workd/workd/model/JobState;)Z"⟩ : MethodName) prog_19_method_7_code 3 (some .boolean) :: ws) ({ frames := 1, cells := 2, slots := 20, locals := 13 } : Room)) (fun a U => a = #[(.ref a1), (.ref a2)] ∧ Z.Warmed39 U.vm ∧ U.heap = h0) (fun _ _ _ _ _ => True) (fun _ U o U' => ∃ v L, o = .returned v ∧ Q_rmM4 Z a1 a2 h0 n0 (v) U'.heap (L) ∧ ReturnedEndW U o U' L 2 20) := by
  refine MetFree.of_bodySF (plainFor_of_name own_pn2) hisR ?_
  intro p e s m args below meth c s₁ Bd hml0 hP hK
  obtain ⟨rfl, hZ, hh⟩ := hP
  have hx := Bd.exec
  have hby := Bd.bytes
  have hml : c.maxLocals = 3 := hml0
  have hown : s.vm.findClass "com/example/workd/workd/model/JobState" = some m.cls := findClass_of_methodNamed Bd.named
  have hnm := (name_of_methodNamed Bd.named Bd.method).1
  have X0 : Stand p l e ({ frames := 1, cells := 2, slots := 20, locals := 13 } : Room) s m #[(.ref a1), (.ref a2)] below meth c s₁ [] 0 0 := Stand.of_body Bd
  have e0 : s₁.heap = h0 := by rw [← hh, Bd.state]; rfl
  have N0 := Fr.nil n0
  have pre0 : ∀ tgt, Steps p.tables e below (s₁.setTop (mkF m 0 #[.val (.ref a1), .val (.ref a2), .unset] [])) tgt → Steps p.tables e below (s₁.setTop (entryFrame m #[(.ref a1), (.ref a2)] 3)) tgt := fun tgt k => castTop (ef_rmM4 m a1 a2) k
  have pre1 : ∀ tgt, Steps p.tables e below (s₁.setTop (mkF m 1 #[.val (.ref a1), .val (.ref a2), .unset] [(.ref a2)])) tgt → Steps p.tables e below (s₁.setTop (entryFrame m #[(.ref a1), (.ref a2)] 3)) tgt := fun tgt kt_ => by
    refine pre0 _ ?_
    show Steps p.tables e below (s₁.setTop (mkF m 0 #[.val (.ref a1), .val (.ref a2), .unset] [])) _
    refine XS.aloadN X0.here hx rfl (hb hby own_d_prog_19_7_0) rfl rfl ?_
    show Steps p.tables e below (s₁.setTop (mkF m 1 #[.val (.ref a1), .val (.ref a2), .unset] [(.ref a2)])) _
    exact kt_
  obtain ⟨al2, T2, h2, kk2, X2, eh2, Ee2, Sn2, Sk2, hZ2, hown2, st2⟩ := ldcS (s := s) (vm0 := s.vm) X0 hx hZ hown (hw _ (List.mem_of_getElem? (i := 33) rfl)) (fun d hd => hw d (own_wS d hd)) e0 ((State.WarmedH.refl s).since h0.size) (Nat.le_refl _) (g := (mkF m 1 #[.val (.ref a1), .val (.ref a2), .unset] [(.ref a2)])) rfl (hb hby own_d_prog_19_7_1) (n := 16) (by decide) (by decide) (by decide) (by decide)
  have Zs3 : n0 ≤ h2.size := Nat.le_trans Z0 Ee2.1
  have Kp3 : Keep h0 h2 [] := (Keep.refl h0 []).ext Ee2
  obtain ⟨_, _, ⟨T4, L4, k4, n4⟩, -, X4, ⟨Lc4, hQ4, l4, y4, z4⟩, st4⟩ := Jvm.LawKit.callS X2 hx (y := (⟨"java/util/Objects", "requireNonNull", "(Ljava/lang/Object;Ljava/lang/String;)Ljava/lang/Object;"⟩ : MethodName)) hown2 (mvT hZ2 (hw _ (List.mem_of_getElem? (i := 41) rfl))) (mvT hZ2 (hw _ (List.mem_of_getElem? (i := 42) rfl))) (mvT hZ2 (hw _ (List.mem_of_getElem? (i := 43) rfl))) (mvT hZ2 (hw _ (List.mem_of_getElem? (i := 44) rfl))) (by decide) (backOf (W := 0) (rmRN l Z a0 hw [] a2 al2 h2 n0 Zs3 ) hZ2 (hw _ (List.mem_of_getElem? (i := 44) rfl)) (hw _ (List.mem_of_getElem? (i := 43) rfl)) (by decide) (by decide)) (g := (mkF m 3 #[.val (.ref a1), .val (.ref a2), .unset] [(.ref al2), (.ref a2)])) rfl (by rw [hml]; rfl) (argsL := [(.ref a2), (.ref al2)]) (rest := []) (lenOf own_pd0 rfl) rfl (by show 2 * 0 + _ ≤ _; exact Nat.le_of_eq rfl) (hb hby own_d_prog_19_7_3) (fun _ _ => ⟨rfl, eh2, (by decide : 2 + 0 ≤ _), (by decide : 20 + 0 ≤ _)⟩)
  dsimp only [Pt.U, Pt.locs, Pt.cells, Pt.slots] at X4 l4 y4 z4 st4 hQ4
  subst l4 y4 z4
  obtain ⟨rfl, N4q, eq4⟩ := hQ4
  have N4 := Fr.app N0 N4q
  have c5 := (E1.ext Ee2)
  have c6 := (F1.ext Ee2)
  obtain ⟨cq7, kq7, q7a, q7b, q7c⟩ := isOf hZ2 eq4 c5
  obtain ⟨_, _, ⟨T7, L7, k7, n7⟩, -, X7, ⟨Lc7, hQ7, l7, y7, z7⟩, st7⟩ := X4.virtualBackUp hx (x := (⟨"com/example/workd/workd/model/JobState", "ordinal", "()I"⟩ : MethodName)) (y := (⟨"java/lang/Enum", "ordinal", "()I"⟩ : MethodName)) (owner := "java/lang/Enum") hown2 (mvT hZ2 (hw _ (List.mem_of_getElem? (i := 45) rfl))) (mvT hZ2 (hw _ (List.mem_of_getElem? (i := 46) rfl))) (mvT hZ2 (hw _ (List.mem_of_getElem? (i := 47) rfl))) (by decide) (mvT hZ2 (hw _ (List.mem_of_getElem? (i := 49) rfl))) (mvT hZ2 (hw _ (List.mem_of_getElem? (i := 48) rfl))) (backOf (W := 0) (rmO l Z a0 hw [] a1 (4 : Int32) h2 n0 Zs3 c6) hZ2 (hw _ (List.mem_of_getElem? (i := 51) rfl)) (hw _ (List.mem_of_getElem? (i := 50) rfl)) (by decide) (by decide)) q7a q7c (g := (mkF m 8 #[.val (.ref a1), .val (.ref a2), .unset] [(.ref a1)])) rfl (by rw [hml]; rfl) (Steps.refl _) (argsL := []) (rest := []) (lenOf own_pd1 rfl) rfl (by show 2 * 0 + _ ≤ _; exact Nat.le_of_eq rfl) (hb hby own_d_prog_19_7_8) (fun _ _ => ⟨rfl, eq4, (by decide : 2 + 0 ≤ _), (by decide : 20 + 0 ≤ _)⟩)
  dsimp only [Pt.U, Pt.locs, Pt.cells, Pt.slots] at X7 l7 y7 z7 st7 hQ7
  subst l7 y7 z7
  obtain ⟨rfl, N7q, eq7⟩ := hQ7
  have N7 := Fr.app N4 N7q
  obtain ⟨fs, hr, hrun, hended, hRE⟩ := Stand.leaveW (s := s) X7 Sn2 (by rw [eq7]; exact Sk2) (v := some (.int (0 : Int32))) (fun h => by rw [Bd.returns] at h; cases h)
  refine ⟨_, _, pre1 _ ?_, hrun, hended, _, _, rfl, ?_, hRE.1, hRE.2.1, hRE.2.2.1, hRE.2.2.2.mono (by decide) (by decide)⟩
  ·
    show Steps p.tables e below (s₁.setTop (mkF m 1 #[.val (.ref a1), .val (.ref a2), .unset] [(.ref a2)])) _
    refine st2 _ ?_
    show Steps p.tables e below (T2.setTop (mkF m 3 #[.val (.ref a1), .val (.ref a2), .unset] [(.ref al2), (.ref a2)])) _
    refine st4 _ ?_
    show Steps p.tables e below (T4.setTop (mkF m 6 #[.val (.ref a1), .val (.ref a2), .unset] [(.ref a2)])) _
    refine XS.pop X4.here hx rfl (hb hby own_d_prog_19_7_6) rfl rfl ?_
    show Steps p.tables e below (T4.setTop (mkF m 7 #[.val (.ref a1), .val (.ref a2), .unset] [])) _
    refine XS.aloadN X4.here hx rfl (hb hby own_d_prog_19_7_7) rfl rfl ?_
    show Steps p.tables e below (T4.setTop (mkF m 8 #[.val (.ref a1), .val (.ref a2), .unset] [(.ref a1)])) _
    refine st7.trans ?_
    show Steps p.tables e below (T7.setTop (mkF m 11 #[.val (.ref a1), .val (.ref a2), .unset] [(.int (4 : Int32))])) _
    refine XS.tswIn X7.here hx rfl (pc0 := 11) (pc' := 142) (o := 131) rfl (hb hby own_d_prog_19_7_11) rfl (by decide) (by decide) (by decide) (by decide) ?_
    show Steps p.tables e below (T7.setTop (mkF m 142 #[.val (.ref a1), .val (.ref a2), .unset] [])) _
    refine XS.iconst X7.here hx rfl (hb hby own_d_prog_19_7_142) ?_
    show Steps p.tables e below (T7.setTop (mkF m 143 #[.val (.ref a1), .val (.ref a2), .unset] [(.int (0 : Int32))])) _
    refine XS.istoreN X7.here hx rfl (hb hby own_d_prog_19_7_143) rfl (l' := #[.val (.ref a1), .val (.ref a2), .val (.int (0 : Int32))]) rfl ?_
    show Steps p.tables e below (T7.setTop (mkF m 144 #[.val (.ref a1), .val (.ref a2), .val (.int (0 : Int32))] [])) _
    refine XS.iloadN X7.here hx rfl (hb hby own_d_prog_19_7_144) rfl ?_
    show Steps p.tables e below (T7.setTop (mkF m 145 #[.val (.ref a1), .val (.ref a2), .val (.int (0 : Int32))] [(.int (0 : Int32))])) _
    exact retN X7 hx (t := .boolean) Bd.returns (by simp) (hb hby own_d_prog_19_7_145) hr
  ·
    show Q_rmM4 Z a1 a2 h0 n0 (_) T7.heap (_)
    rw [eq7]
    exact ⟨rfl, N7, Kp3⟩
theorem ef_rmM5 (m : MethodId) (a1 : Addr) (a2 : Addr) : entryFrame m #[(.ref a1), (.ref a2)] 3 = mkF m 0 #[.val (.ref a1), .val (.ref a2), .unset] [] := by first | (simp [entryFrame, mkF, argsToLocals, Value.category]; done) | rfl
def Q_rmM5 (Z : State) (a1 : Addr) (a2 : Addr) (h0 : Heap) (n0 : Nat) (v : Option Value) (h : Heap) (L : List Loc) : Prop := v = some (.int 0) ∧ Fr n0 L ∧ Keep h0 h []
set_option maxRecDepth 65536 in
set_option maxHeartbeats 40000000 in
theorem rmM5 (l : Launch) (Z : State) (a0 : Array Value) (hw : ∀ d ∈ tables_1, d.before a0 Z = true) (ws : List Jvm.Cond) (a1 : Addr) (a2 : Addr) (h0 : Heap) (n0 : Nat) (Z0 : n0 ≤ h0.size) (E1 : Exa Z h0 a1 "com/example/workd/workd/model/JobState") (F1 : Fld Z h0 a1 "java/lang/Enum" "ordinal" "I" (.int (5 : Int32))) :
    MetFree l (⟨"com/example/workd/workd/model/JobState", "canMoveTo", "(Lcom/example/workd/workd/model/JobState;)Z"⟩ : MethodName) (head1 (Jvm.Cond.code (⟨"com/example/workd/workd/model/JobState", "canMoveTo", "(Lcom/example/workd/workd/model/JobState;)Z"⟩ : MethodName) prog_19_method_7_code 3 (some .boolean) :: ws) ({ frames := 1, cells := 2, slots := 20, locals := 13 } : Room)) (fun a U => a = #[(.ref a1), (.ref a2)] ∧ Z.Warmed39 U.vm ∧ U.heap = h0) (fun _ _ _ _ _ => True) (fun _ U o U' => ∃ v L, o = .returned v ∧ Q_rmM5 Z a1 a2 h0 n0 (v) U'.heap (L) ∧ ReturnedEndW U o U' L 2 20) := by
  refine MetFree.of_bodySF (plainFor_of_name own_pn2) hisR ?_
  intro p e s m args below meth c s₁ Bd hml0 hP hK
  obtain ⟨rfl, hZ, hh⟩ := hP
  have hx := Bd.exec
  have hby := Bd.bytes
  have hml : c.maxLocals = 3 := hml0
  have hown : s.vm.findClass "com/example/workd/workd/model/JobState" = some m.cls := findClass_of_methodNamed Bd.named
  have hnm := (name_of_methodNamed Bd.named Bd.method).1
  have X0 : Stand p l e ({ frames := 1, cells := 2, slots := 20, locals := 13 } : Room) s m #[(.ref a1), (.ref a2)] below meth c s₁ [] 0 0 := Stand.of_body Bd
  have e0 : s₁.heap = h0 := by rw [← hh, Bd.state]; rfl
  have N0 := Fr.nil n0
  have pre0 : ∀ tgt, Steps p.tables e below (s₁.setTop (mkF m 0 #[.val (.ref a1), .val (.ref a2), .unset] [])) tgt → Steps p.tables e below (s₁.setTop (entryFrame m #[(.ref a1), (.ref a2)] 3)) tgt := fun tgt k => castTop (ef_rmM5 m a1 a2) k
  have pre1 : ∀ tgt, Steps p.tables e below (s₁.setTop (mkF m 1 #[.val (.ref a1), .val (.ref a2), .unset] [(.ref a2)])) tgt → Steps p.tables e below (s₁.setTop (entryFrame m #[(.ref a1), (.ref a2)] 3)) tgt := fun tgt kt_ => by
    refine pre0 _ ?_
    show Steps p.tables e below (s₁.setTop (mkF m 0 #[.val (.ref a1), .val (.ref a2), .unset] [])) _
    refine XS.aloadN X0.here hx rfl (hb hby own_d_prog_19_7_0) rfl rfl ?_
    show Steps p.tables e below (s₁.setTop (mkF m 1 #[.val (.ref a1), .val (.ref a2), .unset] [(.ref a2)])) _
    exact kt_
  obtain ⟨al2, T2, h2, kk2, X2, eh2, Ee2, Sn2, Sk2, hZ2, hown2, st2⟩ := ldcS (s := s) (vm0 := s.vm) X0 hx hZ hown (hw _ (List.mem_of_getElem? (i := 33) rfl)) (fun d hd => hw d (own_wS d hd)) e0 ((State.WarmedH.refl s).since h0.size) (Nat.le_refl _) (g := (mkF m 1 #[.val (.ref a1), .val (.ref a2), .unset] [(.ref a2)])) rfl (hb hby own_d_prog_19_7_1) (n := 16) (by decide) (by decide) (by decide) (by decide)
  have Zs3 : n0 ≤ h2.size := Nat.le_trans Z0 Ee2.1
  have Kp3 : Keep h0 h2 [] := (Keep.refl h0 []).ext Ee2
  obtain ⟨_, _, ⟨T4, L4, k4, n4⟩, -, X4, ⟨Lc4, hQ4, l4, y4, z4⟩, st4⟩ := Jvm.LawKit.callS X2 hx (y := (⟨"java/util/Objects", "requireNonNull", "(Ljava/lang/Object;Ljava/lang/String;)Ljava/lang/Object;"⟩ : MethodName)) hown2 (mvT hZ2 (hw _ (List.mem_of_getElem? (i := 41) rfl))) (mvT hZ2 (hw _ (List.mem_of_getElem? (i := 42) rfl))) (mvT hZ2 (hw _ (List.mem_of_getElem? (i := 43) rfl))) (mvT hZ2 (hw _ (List.mem_of_getElem? (i := 44) rfl))) (by decide) (backOf (W := 0) (rmRN l Z a0 hw [] a2 al2 h2 n0 Zs3 ) hZ2 (hw _ (List.mem_of_getElem? (i := 44) rfl)) (hw _ (List.mem_of_getElem? (i := 43) rfl)) (by decide) (by decide)) (g := (mkF m 3 #[.val (.ref a1), .val (.ref a2), .unset] [(.ref al2), (.ref a2)])) rfl (by rw [hml]; rfl) (argsL := [(.ref a2), (.ref al2)]) (rest := []) (lenOf own_pd0 rfl) rfl (by show 2 * 0 + _ ≤ _; exact Nat.le_of_eq rfl) (hb hby own_d_prog_19_7_3) (fun _ _ => ⟨rfl, eh2, (by decide : 2 + 0 ≤ _), (by decide : 20 + 0 ≤ _)⟩)
  dsimp only [Pt.U, Pt.locs, Pt.cells, Pt.slots] at X4 l4 y4 z4 st4 hQ4
  subst l4 y4 z4
  obtain ⟨rfl, N4q, eq4⟩ := hQ4
  have N4 := Fr.app N0 N4q
  have c5 := (E1.ext Ee2)
  have c6 := (F1.ext Ee2)
  obtain ⟨cq7, kq7, q7a, q7b, q7c⟩ := isOf hZ2 eq4 c5
  obtain ⟨_, _, ⟨T7, L7, k7, n7⟩, -, X7, ⟨Lc7, hQ7, l7, y7, z7⟩, st7⟩ := X4.virtualBackUp hx (x := (⟨"com/example/workd/workd/model/JobState", "ordinal", "()I"⟩ : MethodName)) (y := (⟨"java/lang/Enum", "ordinal", "()I"⟩ : MethodName)) (owner := "java/lang/Enum") hown2 (mvT hZ2 (hw _ (List.mem_of_getElem? (i := 45) rfl))) (mvT hZ2 (hw _ (List.mem_of_getElem? (i := 46) rfl))) (mvT hZ2 (hw _ (List.mem_of_getElem? (i := 47) rfl))) (by decide) (mvT hZ2 (hw _ (List.mem_of_getElem? (i := 49) rfl))) (mvT hZ2 (hw _ (List.mem_of_getElem? (i := 48) rfl))) (backOf (W := 0) (rmO l Z a0 hw [] a1 (5 : Int32) h2 n0 Zs3 c6) hZ2 (hw _ (List.mem_of_getElem? (i := 51) rfl)) (hw _ (List.mem_of_getElem? (i := 50) rfl)) (by decide) (by decide)) q7a q7c (g := (mkF m 8 #[.val (.ref a1), .val (.ref a2), .unset] [(.ref a1)])) rfl (by rw [hml]; rfl) (Steps.refl _) (argsL := []) (rest := []) (lenOf own_pd1 rfl) rfl (by show 2 * 0 + _ ≤ _; exact Nat.le_of_eq rfl) (hb hby own_d_prog_19_7_8) (fun _ _ => ⟨rfl, eq4, (by decide : 2 + 0 ≤ _), (by decide : 20 + 0 ≤ _)⟩)
  dsimp only [Pt.U, Pt.locs, Pt.cells, Pt.slots] at X7 l7 y7 z7 st7 hQ7
  subst l7 y7 z7
  obtain ⟨rfl, N7q, eq7⟩ := hQ7
  have N7 := Fr.app N4 N7q
  obtain ⟨fs, hr, hrun, hended, hRE⟩ := Stand.leaveW (s := s) X7 Sn2 (by rw [eq7]; exact Sk2) (v := some (.int (0 : Int32))) (fun h => by rw [Bd.returns] at h; cases h)
  refine ⟨_, _, pre1 _ ?_, hrun, hended, _, _, rfl, ?_, hRE.1, hRE.2.1, hRE.2.2.1, hRE.2.2.2.mono (by decide) (by decide)⟩
  ·
    show Steps p.tables e below (s₁.setTop (mkF m 1 #[.val (.ref a1), .val (.ref a2), .unset] [(.ref a2)])) _
    refine st2 _ ?_
    show Steps p.tables e below (T2.setTop (mkF m 3 #[.val (.ref a1), .val (.ref a2), .unset] [(.ref al2), (.ref a2)])) _
    refine st4 _ ?_
    show Steps p.tables e below (T4.setTop (mkF m 6 #[.val (.ref a1), .val (.ref a2), .unset] [(.ref a2)])) _
    refine XS.pop X4.here hx rfl (hb hby own_d_prog_19_7_6) rfl rfl ?_
    show Steps p.tables e below (T4.setTop (mkF m 7 #[.val (.ref a1), .val (.ref a2), .unset] [])) _
    refine XS.aloadN X4.here hx rfl (hb hby own_d_prog_19_7_7) rfl rfl ?_
    show Steps p.tables e below (T4.setTop (mkF m 8 #[.val (.ref a1), .val (.ref a2), .unset] [(.ref a1)])) _
    refine st7.trans ?_
    show Steps p.tables e below (T7.setTop (mkF m 11 #[.val (.ref a1), .val (.ref a2), .unset] [(.int (5 : Int32))])) _
    refine XS.tswIn X7.here hx rfl (pc0 := 11) (pc' := 142) (o := 131) rfl (hb hby own_d_prog_19_7_11) rfl (by decide) (by decide) (by decide) (by decide) ?_
    show Steps p.tables e below (T7.setTop (mkF m 142 #[.val (.ref a1), .val (.ref a2), .unset] [])) _
    refine XS.iconst X7.here hx rfl (hb hby own_d_prog_19_7_142) ?_
    show Steps p.tables e below (T7.setTop (mkF m 143 #[.val (.ref a1), .val (.ref a2), .unset] [(.int (0 : Int32))])) _
    refine XS.istoreN X7.here hx rfl (hb hby own_d_prog_19_7_143) rfl (l' := #[.val (.ref a1), .val (.ref a2), .val (.int (0 : Int32))]) rfl ?_
    show Steps p.tables e below (T7.setTop (mkF m 144 #[.val (.ref a1), .val (.ref a2), .val (.int (0 : Int32))] [])) _
    refine XS.iloadN X7.here hx rfl (hb hby own_d_prog_19_7_144) rfl ?_
    show Steps p.tables e below (T7.setTop (mkF m 145 #[.val (.ref a1), .val (.ref a2), .val (.int (0 : Int32))] [(.int (0 : Int32))])) _
    exact retN X7 hx (t := .boolean) Bd.returns (by simp) (hb hby own_d_prog_19_7_145) hr
  ·
    show Q_rmM5 Z a1 a2 h0 n0 (_) T7.heap (_)
    rw [eq7]
    exact ⟨rfl, N7, Kp3⟩
theorem ef_rmM6 (m : MethodId) (a1 : Addr) (a2 : Addr) : entryFrame m #[(.ref a1), (.ref a2)] 3 = mkF m 0 #[.val (.ref a1), .val (.ref a2), .unset] [] := by first | (simp [entryFrame, mkF, argsToLocals, Value.category]; done) | rfl
def Q_rmM6 (Z : State) (a1 : Addr) (a2 : Addr) (h0 : Heap) (n0 : Nat) (v : Option Value) (h : Heap) (L : List Loc) : Prop := v = some (.int 0) ∧ Fr n0 L ∧ Keep h0 h []
set_option maxRecDepth 65536 in
set_option maxHeartbeats 40000000 in
theorem rmM6 (l : Launch) (Z : State) (a0 : Array Value) (hw : ∀ d ∈ tables_1, d.before a0 Z = true) (ws : List Jvm.Cond) (a1 : Addr) (a2 : Addr) (h0 : Heap) (n0 : Nat) (Z0 : n0 ≤ h0.size) (E1 : Exa Z h0 a1 "com/example/workd/workd/model/JobState") (F1 : Fld Z h0 a1 "java/lang/Enum" "ordinal" "I" (.int (6 : Int32))) :
    MetFree l (⟨"com/example/workd/workd/model/JobState", "canMoveTo", "(Lcom/example/workd/workd/model/JobState;)Z"⟩ : MethodName) (head1 (Jvm.Cond.code (⟨"com/example/workd/workd/model/JobState", "canMoveTo", "(Lcom/example/workd/workd/model/JobState;)Z"⟩ : MethodName) prog_19_method_7_code 3 (some .boolean) :: ws) ({ frames := 1, cells := 2, slots := 20, locals := 13 } : Room)) (fun a U => a = #[(.ref a1), (.ref a2)] ∧ Z.Warmed39 U.vm ∧ U.heap = h0) (fun _ _ _ _ _ => True) (fun _ U o U' => ∃ v L, o = .returned v ∧ Q_rmM6 Z a1 a2 h0 n0 (v) U'.heap (L) ∧ ReturnedEndW U o U' L 2 20) := by
  refine MetFree.of_bodySF (plainFor_of_name own_pn2) hisR ?_
  intro p e s m args below meth c s₁ Bd hml0 hP hK
  obtain ⟨rfl, hZ, hh⟩ := hP
  have hx := Bd.exec
  have hby := Bd.bytes
  have hml : c.maxLocals = 3 := hml0
  have hown : s.vm.findClass "com/example/workd/workd/model/JobState" = some m.cls := findClass_of_methodNamed Bd.named
  have hnm := (name_of_methodNamed Bd.named Bd.method).1
  have X0 : Stand p l e ({ frames := 1, cells := 2, slots := 20, locals := 13 } : Room) s m #[(.ref a1), (.ref a2)] below meth c s₁ [] 0 0 := Stand.of_body Bd
  have e0 : s₁.heap = h0 := by rw [← hh, Bd.state]; rfl
  have N0 := Fr.nil n0
  have pre0 : ∀ tgt, Steps p.tables e below (s₁.setTop (mkF m 0 #[.val (.ref a1), .val (.ref a2), .unset] [])) tgt → Steps p.tables e below (s₁.setTop (entryFrame m #[(.ref a1), (.ref a2)] 3)) tgt := fun tgt k => castTop (ef_rmM6 m a1 a2) k
  have pre1 : ∀ tgt, Steps p.tables e below (s₁.setTop (mkF m 1 #[.val (.ref a1), .val (.ref a2), .unset] [(.ref a2)])) tgt → Steps p.tables e below (s₁.setTop (entryFrame m #[(.ref a1), (.ref a2)] 3)) tgt := fun tgt kt_ => by
    refine pre0 _ ?_
    show Steps p.tables e below (s₁.setTop (mkF m 0 #[.val (.ref a1), .val (.ref a2), .unset] [])) _
    refine XS.aloadN X0.here hx rfl (hb hby own_d_prog_19_7_0) rfl rfl ?_
    show Steps p.tables e below (s₁.setTop (mkF m 1 #[.val (.ref a1), .val (.ref a2), .unset] [(.ref a2)])) _
    exact kt_
  obtain ⟨al2, T2, h2, kk2, X2, eh2, Ee2, Sn2, Sk2, hZ2, hown2, st2⟩ := ldcS (s := s) (vm0 := s.vm) X0 hx hZ hown (hw _ (List.mem_of_getElem? (i := 33) rfl)) (fun d hd => hw d (own_wS d hd)) e0 ((State.WarmedH.refl s).since h0.size) (Nat.le_refl _) (g := (mkF m 1 #[.val (.ref a1), .val (.ref a2), .unset] [(.ref a2)])) rfl (hb hby own_d_prog_19_7_1) (n := 16) (by decide) (by decide) (by decide) (by decide)
  have Zs3 : n0 ≤ h2.size := Nat.le_trans Z0 Ee2.1
  have Kp3 : Keep h0 h2 [] := (Keep.refl h0 []).ext Ee2
  obtain ⟨_, _, ⟨T4, L4, k4, n4⟩, -, X4, ⟨Lc4, hQ4, l4, y4, z4⟩, st4⟩ := Jvm.LawKit.callS X2 hx (y := (⟨"java/util/Objects", "requireNonNull", "(Ljava/lang/Object;Ljava/lang/String;)Ljava/lang/Object;"⟩ : MethodName)) hown2 (mvT hZ2 (hw _ (List.mem_of_getElem? (i := 41) rfl))) (mvT hZ2 (hw _ (List.mem_of_getElem? (i := 42) rfl))) (mvT hZ2 (hw _ (List.mem_of_getElem? (i := 43) rfl))) (mvT hZ2 (hw _ (List.mem_of_getElem? (i := 44) rfl))) (by decide) (backOf (W := 0) (rmRN l Z a0 hw [] a2 al2 h2 n0 Zs3 ) hZ2 (hw _ (List.mem_of_getElem? (i := 44) rfl)) (hw _ (List.mem_of_getElem? (i := 43) rfl)) (by decide) (by decide)) (g := (mkF m 3 #[.val (.ref a1), .val (.ref a2), .unset] [(.ref al2), (.ref a2)])) rfl (by rw [hml]; rfl) (argsL := [(.ref a2), (.ref al2)]) (rest := []) (lenOf own_pd0 rfl) rfl (by show 2 * 0 + _ ≤ _; exact Nat.le_of_eq rfl) (hb hby own_d_prog_19_7_3) (fun _ _ => ⟨rfl, eh2, (by decide : 2 + 0 ≤ _), (by decide : 20 + 0 ≤ _)⟩)
  dsimp only [Pt.U, Pt.locs, Pt.cells, Pt.slots] at X4 l4 y4 z4 st4 hQ4
  subst l4 y4 z4
  obtain ⟨rfl, N4q, eq4⟩ := hQ4
  have N4 := Fr.app N0 N4q
  have c5 := (E1.ext Ee2)
  have c6 := (F1.ext Ee2)
  obtain ⟨cq7, kq7, q7a, q7b, q7c⟩ := isOf hZ2 eq4 c5
  obtain ⟨_, _, ⟨T7, L7, k7, n7⟩, -, X7, ⟨Lc7, hQ7, l7, y7, z7⟩, st7⟩ := X4.virtualBackUp hx (x := (⟨"com/example/workd/workd/model/JobState", "ordinal", "()I"⟩ : MethodName)) (y := (⟨"java/lang/Enum", "ordinal", "()I"⟩ : MethodName)) (owner := "java/lang/Enum") hown2 (mvT hZ2 (hw _ (List.mem_of_getElem? (i := 45) rfl))) (mvT hZ2 (hw _ (List.mem_of_getElem? (i := 46) rfl))) (mvT hZ2 (hw _ (List.mem_of_getElem? (i := 47) rfl))) (by decide) (mvT hZ2 (hw _ (List.mem_of_getElem? (i := 49) rfl))) (mvT hZ2 (hw _ (List.mem_of_getElem? (i := 48) rfl))) (backOf (W := 0) (rmO l Z a0 hw [] a1 (6 : Int32) h2 n0 Zs3 c6) hZ2 (hw _ (List.mem_of_getElem? (i := 51) rfl)) (hw _ (List.mem_of_getElem? (i := 50) rfl)) (by decide) (by decide)) q7a q7c (g := (mkF m 8 #[.val (.ref a1), .val (.ref a2), .unset] [(.ref a1)])) rfl (by rw [hml]; rfl) (Steps.refl _) (argsL := []) (rest := []) (lenOf own_pd1 rfl) rfl (by show 2 * 0 + _ ≤ _; exact Nat.le_of_eq rfl) (hb hby own_d_prog_19_7_8) (fun _ _ => ⟨rfl, eq4, (by decide : 2 + 0 ≤ _), (by decide : 20 + 0 ≤ _)⟩)
  dsimp only [Pt.U, Pt.locs, Pt.cells, Pt.slots] at X7 l7 y7 z7 st7 hQ7
  subst l7 y7 z7
  obtain ⟨rfl, N7q, eq7⟩ := hQ7
  have N7 := Fr.app N4 N7q
  obtain ⟨fs, hr, hrun, hended, hRE⟩ := Stand.leaveW (s := s) X7 Sn2 (by rw [eq7]; exact Sk2) (v := some (.int (0 : Int32))) (fun h => by rw [Bd.returns] at h; cases h)
  refine ⟨_, _, pre1 _ ?_, hrun, hended, _, _, rfl, ?_, hRE.1, hRE.2.1, hRE.2.2.1, hRE.2.2.2.mono (by decide) (by decide)⟩
  ·
    show Steps p.tables e below (s₁.setTop (mkF m 1 #[.val (.ref a1), .val (.ref a2), .unset] [(.ref a2)])) _
    refine st2 _ ?_
    show Steps p.tables e below (T2.setTop (mkF m 3 #[.val (.ref a1), .val (.ref a2), .unset] [(.ref al2), (.ref a2)])) _
    refine st4 _ ?_
    show Steps p.tables e below (T4.setTop (mkF m 6 #[.val (.ref a1), .val (.ref a2), .unset] [(.ref a2)])) _
    refine XS.pop X4.here hx rfl (hb hby own_d_prog_19_7_6) rfl rfl ?_
    show Steps p.tables e below (T4.setTop (mkF m 7 #[.val (.ref a1), .val (.ref a2), .unset] [])) _
    refine XS.aloadN X4.here hx rfl (hb hby own_d_prog_19_7_7) rfl rfl ?_
    show Steps p.tables e below (T4.setTop (mkF m 8 #[.val (.ref a1), .val (.ref a2), .unset] [(.ref a1)])) _
    refine st7.trans ?_
    show Steps p.tables e below (T7.setTop (mkF m 11 #[.val (.ref a1), .val (.ref a2), .unset] [(.int (6 : Int32))])) _
    refine XS.tswIn X7.here hx rfl (pc0 := 11) (pc' := 142) (o := 131) rfl (hb hby own_d_prog_19_7_11) rfl (by decide) (by decide) (by decide) (by decide) ?_
    show Steps p.tables e below (T7.setTop (mkF m 142 #[.val (.ref a1), .val (.ref a2), .unset] [])) _
    refine XS.iconst X7.here hx rfl (hb hby own_d_prog_19_7_142) ?_
    show Steps p.tables e below (T7.setTop (mkF m 143 #[.val (.ref a1), .val (.ref a2), .unset] [(.int (0 : Int32))])) _
    refine XS.istoreN X7.here hx rfl (hb hby own_d_prog_19_7_143) rfl (l' := #[.val (.ref a1), .val (.ref a2), .val (.int (0 : Int32))]) rfl ?_
    show Steps p.tables e below (T7.setTop (mkF m 144 #[.val (.ref a1), .val (.ref a2), .val (.int (0 : Int32))] [])) _
    refine XS.iloadN X7.here hx rfl (hb hby own_d_prog_19_7_144) rfl ?_
    show Steps p.tables e below (T7.setTop (mkF m 145 #[.val (.ref a1), .val (.ref a2), .val (.int (0 : Int32))] [(.int (0 : Int32))])) _
    exact retN X7 hx (t := .boolean) Bd.returns (by simp) (hb hby own_d_prog_19_7_145) hr
  ·
    show Q_rmM6 Z a1 a2 h0 n0 (_) T7.heap (_)
    rw [eq7]
    exact ⟨rfl, N7, Kp3⟩
theorem own_pd2 : parseMethodDescriptor "()Z" = some ⟨[], some .boolean⟩ := by decide +kernel
theorem own_pd3 : parseMethodDescriptor "(Lcom/example/workd/workd/model/JobState;)Z" = some ⟨[(.object "com/example/workd/workd/model/JobState")], some .boolean⟩ := by decide +kernel
theorem own_pn3 : plainName "com/example/workd/workd/model/JobStateIsEndStatePinLaw" = true := by first | (simp [plainName, overriddenIn]; done) | decide +kernel
theorem ef_rm0 (m : MethodId) (p1 : Int32) (p2 : Int32) : entryFrame m #[(.int p1), (.int p2)] maxLocals = mkF m 0 #[.val (.int p1), .val (.int p2), .unset, .unset, .unset, .unset, .unset, .unset] [] := by first | (simp [entryFrame, mkF, argsToLocals, Value.category, maxLocals]; done) | rfl
def Q_rm0 (Z : State) (p1 : Int32) (p2 : Int32) (w0 : Addr) (w1 : Addr) (w2 : Addr) (w3 : Addr) (w4 : Addr) (w5 : Addr) (w6 : Addr) (h0 : Heap) (n0 : Nat) (v : Option Value) (h : Heap) (L : List Loc) : Prop := v = some (.int 1) ∧ Fr n0 L
set_option maxRecDepth 65536 in
set_option maxHeartbeats 40000000 in
theorem rm0 (l : Launch) (Z : State) (a0 : Array Value) (hw : ∀ d ∈ tables_1, d.before a0 Z = true) (ws : List Jvm.Cond) (p1 : Int32) (p2 : Int32) (w0 : Addr) (w1 : Addr) (w2 : Addr) (w3 : Addr) (w4 : Addr) (w5 : Addr) (w6 : Addr) (h0 : Heap) (n0 : Nat) (Z0 : n0 ≤ h0.size) (O0 : Old Z n0 h0) (S0 : Sta Z Z.heap "com/example/workd/workd/model/JobState" "QUEUED" "Lcom/example/workd/workd/model/JobState;" (.ref w0)) (S1 : Sta Z Z.heap "com/example/workd/workd/model/JobState" "STARTING" "Lcom/example/workd/workd/model/JobState;" (.ref w1)) (S2 : Sta Z Z.heap "com/example/workd/workd/model/JobState" "RUNNING" "Lcom/example/workd/workd/model/JobState;" (.ref w2)) (S3 : Sta Z Z.heap "com/example/workd/workd/model/JobState" "COMPLETED" "Lcom/example/workd/workd/model/JobState;" (.ref w3)) (S4 : Sta Z Z.heap "com/example/workd/workd/model/JobState" "FAILED" "Lcom/example/workd/workd/model/JobState;" (.ref w4)) (S5 : Sta Z Z.heap "com/example/workd/workd/model/JobState" "TIMED_OUT" "Lcom/example/workd/workd/model/JobState;" (.ref w5)) (S6 : Sta Z Z.heap "com/example/workd/workd/model/JobState" "CANCELLED" "Lcom/example/workd/workd/model/JobState;" (.ref w6)) (E0 : Exa Z Z.heap w0 "com/example/workd/workd/model/JobState") (F0 : Fld Z Z.heap w0 "java/lang/Enum" "ordinal" "I" (.int (0 : Int32))) (E1 : Exa Z Z.heap w1 "com/example/workd/workd/model/JobState") (F1 : Fld Z Z.heap w1 "java/lang/Enum" "ordinal" "I" (.int (1 : Int32))) (E2 : Exa Z Z.heap w2 "com/example/workd/workd/model/JobState") (F2 : Fld Z Z.heap w2 "java/lang/Enum" "ordinal" "I" (.int (2 : Int32))) (E3 : Exa Z Z.heap w3 "com/example/workd/workd/model/JobState") (F3 : Fld Z Z.heap w3 "java/lang/Enum" "ordinal" "I" (.int (3 : Int32))) (E4 : Exa Z Z.heap w4 "com/example/workd/workd/model/JobState") (F4 : Fld Z Z.heap w4 "java/lang/Enum" "ordinal" "I" (.int (4 : Int32))) (E5 : Exa Z Z.heap w5 "com/example/workd/workd/model/JobState") (F5 : Fld Z Z.heap w5 "java/lang/Enum" "ordinal" "I" (.int (5 : Int32))) (E6 : Exa Z Z.heap w6 "com/example/workd/workd/model/JobState") (F6 : Fld Z Z.heap w6 "java/lang/Enum" "ordinal" "I" (.int (6 : Int32))) (ne_0_3 : ¬ w0 = w3) (ne_0_4 : ¬ w0 = w4) (ne_0_5 : ¬ w0 = w5) (ne_0_6 : ¬ w0 = w6) (ne_1_3 : ¬ w1 = w3) (ne_1_4 : ¬ w1 = w4) (ne_1_5 : ¬ w1 = w5) (ne_1_6 : ¬ w1 = w6) (ne_2_3 : ¬ w2 = w3) (ne_2_4 : ¬ w2 = w4) (ne_2_5 : ¬ w2 = w5) (ne_2_6 : ¬ w2 = w6) (ne_4_3 : ¬ w4 = w3) (ne_5_3 : ¬ w5 = w3) (ne_5_4 : ¬ w5 = w4) (ne_6_3 : ¬ w6 = w3) (ne_6_4 : ¬ w6 = w4) (ne_6_5 : ¬ w6 = w5) :
    MetFree l x (head1 (Jvm.Cond.code x code maxLocals ret :: ws) room_1) (fun a U => a = #[(.int p1), (.int p2)] ∧ Z.Warmed39 U.vm ∧ U.heap = h0) (fun _ _ _ _ _ => True) (fun _ U o U' => ∃ v L, o = .returned v ∧ Q_rm0 Z p1 p2 w0 w1 w2 w3 w4 w5 w6 h0 n0 (v) U'.heap (L) ∧ ReturnedEndW U o U' L 3 27) := by
  refine MetFree.of_bodySF (plainFor_of_name own_pn3) hisR ?_
  intro p e s m args below meth c s₁ Bd hml0 hP hK
  obtain ⟨rfl, hZ, hh⟩ := hP
  have hx := Bd.exec
  have hby := Bd.bytes
  have hml : c.maxLocals = 8 := hml0
  have hown : s.vm.findClass "com/example/workd/workd/model/JobStateIsEndStatePinLaw" = some m.cls := findClass_of_methodNamed Bd.named
  have hnm := (name_of_methodNamed Bd.named Bd.method).1
  have X0 : Stand p l e room_1 s m #[(.int p1), (.int p2)] below meth c s₁ [] 0 0 := Stand.of_body Bd
  have e0 : s₁.heap = h0 := by rw [← hh, Bd.state]; rfl
  have N0 := Fr.nil n0
  have pre0 : ∀ tgt, Steps p.tables e below (s₁.setTop (mkF m 0 #[.val (.int p1), .val (.int p2), .unset, .unset, .unset, .unset, .unset, .unset] [])) tgt → Steps p.tables e below (s₁.setTop (entryFrame m #[(.int p1), (.int p2)] maxLocals)) tgt := fun tgt k => castTop (ef_rm0 m p1 p2) k
  obtain ⟨T1, h1, k1, X1, eh1, Ee1, A1, Ov1, st1⟩ := newR X0 hx hZ hown (hw _ (List.mem_of_getElem? (i := 0) rfl)) (hw _ (List.mem_of_getElem? (i := 1) rfl)) e0 (g := (mkF m 2 #[.val (.int p1), .val (.int p2), .unset, .unset, .unset, .unset, .unset, .unset] [(.int (7 : Int32))])) rfl (hb hby at_2) rfl (by decide) (cap := 7) (by decide) (by decide) (by decide) (by decide)
  obtain ⟨b1, g1⟩ : ∃ z, z = h0.size := ⟨_, rfl⟩
  rw [← g1] at A1 st1
  have c2 := E0.ext O0.2
  have ne_w0_b1 : w0 ≠ b1 := Nat.ne_of_lt (Nat.lt_of_lt_of_le c2.lt (Nat.le_of_eq g1.symm))
  have c3 := E1.ext O0.2
  have ne_w1_b1 : w1 ≠ b1 := Nat.ne_of_lt (Nat.lt_of_lt_of_le c3.lt (Nat.le_of_eq g1.symm))
  have c4 := E2.ext O0.2
  have ne_w2_b1 : w2 ≠ b1 := Nat.ne_of_lt (Nat.lt_of_lt_of_le c4.lt (Nat.le_of_eq g1.symm))
  have c5 := E3.ext O0.2
  have ne_w3_b1 : w3 ≠ b1 := Nat.ne_of_lt (Nat.lt_of_lt_of_le c5.lt (Nat.le_of_eq g1.symm))
  have c6 := E4.ext O0.2
  have ne_w4_b1 : w4 ≠ b1 := Nat.ne_of_lt (Nat.lt_of_lt_of_le c6.lt (Nat.le_of_eq g1.symm))
  have c7 := E5.ext O0.2
  have ne_w5_b1 : w5 ≠ b1 := Nat.ne_of_lt (Nat.lt_of_lt_of_le c7.lt (Nat.le_of_eq g1.symm))
  have c8 := E6.ext O0.2
  have ne_w6_b1 : w6 ≠ b1 := Nat.ne_of_lt (Nat.lt_of_lt_of_le c8.lt (Nat.le_of_eq g1.symm))
  have gf_b1 : n0 ≤ b1 := Nat.le_trans Z0 (Nat.le_of_eq g1.symm)
  have Zs9 : n0 ≤ h1.size := Nat.le_trans Z0 Ee1.1
  have O9 := O0.ext Ee1
  have V1 : Arv Z h1 b1 k1 (.object "com/example/workd/workd/model/JobState") (7 : Int32) [.null, .null, .null, .null, .null, .null, .null] .null := (Arv.new A1 (by decide)).pad (pad_rep [] .null 7)
  have c10 := S0.ext O9.2
  obtain ⟨T11, X11, eh11, st11⟩ := getS2 X1 hx hZ hown (host := "") (Or.inl (hw _ (List.mem_of_getElem? (i := 2) rfl))) Via.refl eh1 c10 (g := (mkF m 7 #[.val (.int p1), .val (.int p2), .unset, .unset, .unset, .unset, .unset, .unset] [(.int (0 : Int32)), (.ref b1), (.ref b1)])) rfl (hb hby at_7)
  obtain ⟨cl12, Ar12, q12, Sz12, Ng12, Hs12, Gf12⟩ := id V1
  have c13 := E0.ext O9.2
  obtain ⟨T12, h12, X12, eh12, W12, st12⟩ := stR X11 hx hZ eh11 Ar12 (j := (0 : Int32)) (inb_of Sz12 ⟨by decide, by decide⟩) rfl (Sto.ofV Ar12 q12 Ov1 (Ins.self c13)) (g := (mkF m 10 #[.val (.int p1), .val (.int p2), .unset, .unset, .unset, .unset, .unset, .unset] [(.ref w0), (.int (0 : Int32)), (.ref b1), (.ref b1)])) rfl rfl (hb hby at_10)
  have Zs14 : n0 ≤ h12.size := Nat.le_trans Zs9 (Nat.le_of_eq W12.size.symm)
  have N14 := Fr.snoc X12 N0 gf_b1
  have O14 := O9.wr W12 gf_b1
  have V12 : Arv Z h12 b1 k1 (.object "com/example/workd/workd/model/JobState") (7 : Int32) [(.ref w0), .null, .null, .null, .null, .null, .null] .null := Arv.set Ar12 q12 Sz12 Ng12 Hs12 Gf12 rfl W12 0 rfl (Nat.le_of_ble_eq_true rfl)
  have c15 := S1.ext O14.2
  obtain ⟨T16, X16, eh16, st16⟩ := getS2 X12 hx hZ hown (host := "") (Or.inl (hw _ (List.mem_of_getElem? (i := 6) rfl))) Via.refl eh12 c15 (g := (mkF m 13 #[.val (.int p1), .val (.int p2), .unset, .unset, .unset, .unset, .unset, .unset] [(.int (1 : Int32)), (.ref b1), (.ref b1)])) rfl (hb hby at_13)
  obtain ⟨cl17, Ar17, q17, Sz17, Ng17, Hs17, Gf17⟩ := id V12
  have c18 := E1.ext O14.2
  obtain ⟨T17, h17, X17, eh17, W17, st17⟩ := stR X16 hx hZ eh16 Ar17 (j := (1 : Int32)) (inb_of Sz17 ⟨by decide, by decide⟩) rfl (Sto.ofV Ar17 q17 Ov1 (Ins.self c18)) (g := (mkF m 16 #[.val (.int p1), .val (.int p2), .unset, .unset, .unset, .unset, .unset, .unset] [(.ref w1), (.int (1 : Int32)), (.ref b1), (.ref b1)])) rfl rfl (hb hby at_16)
  have Zs19 : n0 ≤ h17.size := Nat.le_trans Zs14 (Nat.le_of_eq W17.size.symm)
  have N19 := Fr.snoc X17 N14 gf_b1
  have O19 := O14.wr W17 gf_b1
  have V17 : Arv Z h17 b1 k1 (.object "com/example/workd/workd/model/JobState") (7 : Int32) [(.ref w0), (.ref w1), .null, .null, .null, .null, .null] .null := Arv.set Ar17 q17 Sz17 Ng17 Hs17 Gf17 rfl W17 1 rfl (Nat.le_of_ble_eq_true rfl)
  have c20 := S2.ext O19.2
  obtain ⟨T21, X21, eh21, st21⟩ := getS2 X17 hx hZ hown (host := "") (Or.inl (hw _ (List.mem_of_getElem? (i := 8) rfl))) Via.refl eh17 c20 (g := (mkF m 19 #[.val (.int p1), .val (.int p2), .unset, .unset, .unset, .unset, .unset, .unset] [(.int (2 : Int32)), (.ref b1), (.ref b1)])) rfl (hb hby at_19)
  obtain ⟨cl22, Ar22, q22, Sz22, Ng22, Hs22, Gf22⟩ := id V17
  have c23 := E2.ext O19.2
  obtain ⟨T22, h22, X22, eh22, W22, st22⟩ := stR X21 hx hZ eh21 Ar22 (j := (2 : Int32)) (inb_of Sz22 ⟨by decide, by decide⟩) rfl (Sto.ofV Ar22 q22 Ov1 (Ins.self c23)) (g := (mkF m 22 #[.val (.int p1), .val (.int p2), .unset, .unset, .unset, .unset, .unset, .unset] [(.ref w2), (.int (2 : Int32)), (.ref b1), (.ref b1)])) rfl rfl (hb hby at_22)
  have Zs24 : n0 ≤ h22.size := Nat.le_trans Zs19 (Nat.le_of_eq W22.size.symm)
  have N24 := Fr.snoc X22 N19 gf_b1
  have O24 := O19.wr W22 gf_b1
  have V22 : Arv Z h22 b1 k1 (.object "com/example/workd/workd/model/JobState") (7 : Int32) [(.ref w0), (.ref w1), (.ref w2), .null, .null, .null, .null] .null := Arv.set Ar22 q22 Sz22 Ng22 Hs22 Gf22 rfl W22 2 rfl (Nat.le_of_ble_eq_true rfl)
  have c25 := S3.ext O24.2
  obtain ⟨T26, X26, eh26, st26⟩ := getS2 X22 hx hZ hown (host := "") (Or.inl (hw _ (List.mem_of_getElem? (i := 10) rfl))) Via.refl eh22 c25 (g := (mkF m 25 #[.val (.int p1), .val (.int p2), .unset, .unset, .unset, .unset, .unset, .unset] [(.int (3 : Int32)), (.ref b1), (.ref b1)])) rfl (hb hby at_25)
  obtain ⟨cl27, Ar27, q27, Sz27, Ng27, Hs27, Gf27⟩ := id V22
  have c28 := E3.ext O24.2
  obtain ⟨T27, h27, X27, eh27, W27, st27⟩ := stR X26 hx hZ eh26 Ar27 (j := (3 : Int32)) (inb_of Sz27 ⟨by decide, by decide⟩) rfl (Sto.ofV Ar27 q27 Ov1 (Ins.self c28)) (g := (mkF m 28 #[.val (.int p1), .val (.int p2), .unset, .unset, .unset, .unset, .unset, .unset] [(.ref w3), (.int (3 : Int32)), (.ref b1), (.ref b1)])) rfl rfl (hb hby at_28)
  have Zs29 : n0 ≤ h27.size := Nat.le_trans Zs24 (Nat.le_of_eq W27.size.symm)
  have N29 := Fr.snoc X27 N24 gf_b1
  have O29 := O24.wr W27 gf_b1
  have V27 : Arv Z h27 b1 k1 (.object "com/example/workd/workd/model/JobState") (7 : Int32) [(.ref w0), (.ref w1), (.ref w2), (.ref w3), .null, .null, .null] .null := Arv.set Ar27 q27 Sz27 Ng27 Hs27 Gf27 rfl W27 3 rfl (Nat.le_of_ble_eq_true rfl)
  have c30 := S4.ext O29.2
  obtain ⟨T31, X31, eh31, st31⟩ := getS2 X27 hx hZ hown (host := "") (Or.inl (hw _ (List.mem_of_getElem? (i := 12) rfl))) Via.refl eh27 c30 (g := (mkF m 31 #[.val (.int p1), .val (.int p2), .unset, .unset, .unset, .unset, .unset, .unset] [(.int (4 : Int32)), (.ref b1), (.ref b1)])) rfl (hb hby at_31)
  obtain ⟨cl32, Ar32, q32, Sz32, Ng32, Hs32, Gf32⟩ := id V27
  have c33 := E4.ext O29.2
  obtain ⟨T32, h32, X32, eh32, W32, st32⟩ := stR X31 hx hZ eh31 Ar32 (j := (4 : Int32)) (inb_of Sz32 ⟨by decide, by decide⟩) rfl (Sto.ofV Ar32 q32 Ov1 (Ins.self c33)) (g := (mkF m 34 #[.val (.int p1), .val (.int p2), .unset, .unset, .unset, .unset, .unset, .unset] [(.ref w4), (.int (4 : Int32)), (.ref b1), (.ref b1)])) rfl rfl (hb hby at_34)
  have Zs34 : n0 ≤ h32.size := Nat.le_trans Zs29 (Nat.le_of_eq W32.size.symm)
  have N34 := Fr.snoc X32 N29 gf_b1
  have O34 := O29.wr W32 gf_b1
  have V32 : Arv Z h32 b1 k1 (.object "com/example/workd/workd/model/JobState") (7 : Int32) [(.ref w0), (.ref w1), (.ref w2), (.ref w3), (.ref w4), .null, .null] .null := Arv.set Ar32 q32 Sz32 Ng32 Hs32 Gf32 rfl W32 4 rfl (Nat.le_of_ble_eq_true rfl)
  have c35 := S5.ext O34.2
  obtain ⟨T36, X36, eh36, st36⟩ := getS2 X32 hx hZ hown (host := "") (Or.inl (hw _ (List.mem_of_getElem? (i := 14) rfl))) Via.refl eh32 c35 (g := (mkF m 37 #[.val (.int p1), .val (.int p2), .unset, .unset, .unset, .unset, .unset, .unset] [(.int (5 : Int32)), (.ref b1), (.ref b1)])) rfl (hb hby at_37)
  obtain ⟨cl37, Ar37, q37, Sz37, Ng37, Hs37, Gf37⟩ := id V32
  have c38 := E5.ext O34.2
  obtain ⟨T37, h37, X37, eh37, W37, st37⟩ := stR X36 hx hZ eh36 Ar37 (j := (5 : Int32)) (inb_of Sz37 ⟨by decide, by decide⟩) rfl (Sto.ofV Ar37 q37 Ov1 (Ins.self c38)) (g := (mkF m 40 #[.val (.int p1), .val (.int p2), .unset, .unset, .unset, .unset, .unset, .unset] [(.ref w5), (.int (5 : Int32)), (.ref b1), (.ref b1)])) rfl rfl (hb hby at_40)
  have Zs39 : n0 ≤ h37.size := Nat.le_trans Zs34 (Nat.le_of_eq W37.size.symm)
  have N39 := Fr.snoc X37 N34 gf_b1
  have O39 := O34.wr W37 gf_b1
  have V37 : Arv Z h37 b1 k1 (.object "com/example/workd/workd/model/JobState") (7 : Int32) [(.ref w0), (.ref w1), (.ref w2), (.ref w3), (.ref w4), (.ref w5), .null] .null := Arv.set Ar37 q37 Sz37 Ng37 Hs37 Gf37 rfl W37 5 rfl (Nat.le_of_ble_eq_true rfl)
  have c40 := S6.ext O39.2
  obtain ⟨T41, X41, eh41, st41⟩ := getS2 X37 hx hZ hown (host := "") (Or.inl (hw _ (List.mem_of_getElem? (i := 16) rfl))) Via.refl eh37 c40 (g := (mkF m 44 #[.val (.int p1), .val (.int p2), .unset, .unset, .unset, .unset, .unset, .unset] [(.int (6 : Int32)), (.ref b1), (.ref b1)])) rfl (hb hby at_44)
  obtain ⟨cl42, Ar42, q42, Sz42, Ng42, Hs42, Gf42⟩ := id V37
  have c43 := E6.ext O39.2
  obtain ⟨T42, h42, X42, eh42, W42, st42⟩ := stR X41 hx hZ eh41 Ar42 (j := (6 : Int32)) (inb_of Sz42 ⟨by decide, by decide⟩) rfl (Sto.ofV Ar42 q42 Ov1 (Ins.self c43)) (g := (mkF m 47 #[.val (.int p1), .val (.int p2), .unset, .unset, .unset, .unset, .unset, .unset] [(.ref w6), (.int (6 : Int32)), (.ref b1), (.ref b1)])) rfl rfl (hb hby at_47)
  have Zs44 : n0 ≤ h42.size := Nat.le_trans Zs39 (Nat.le_of_eq W42.size.symm)
  have N44 := Fr.snoc X42 N39 gf_b1
  have O44 := O39.wr W42 gf_b1
  have V42 : Arv Z h42 b1 k1 (.object "com/example/workd/workd/model/JobState") (7 : Int32) [(.ref w0), (.ref w1), (.ref w2), (.ref w3), (.ref w4), (.ref w5), (.ref w6)] .null := Arv.set Ar42 q42 Sz42 Ng42 Hs42 Gf42 rfl W42 6 rfl (Nat.le_of_ble_eq_true rfl)
  have pre45 : ∀ tgt, Steps p.tables e below (T42.setTop (mkF m 66 #[.val (.int p1), .val (.int p2), .val (.ref b1), .val (.int ((p1 &&& (2147483647 : Int32)) % (7 : Int32))), .val (.int ((p2 &&& (2147483647 : Int32)) % (7 : Int32))), .unset, .unset, .unset] [])) tgt → Steps p.tables e below (s₁.setTop (entryFrame m #[(.int p1), (.int p2)] maxLocals)) tgt := fun tgt kt_ => by
    refine pre0 _ ?_
    show Steps p.tables e below (s₁.setTop (mkF m 0 #[.val (.int p1), .val (.int p2), .unset, .unset, .unset, .unset, .unset, .unset] [])) _
    refine XS.bipush X0.here hx rfl (hb hby at_0) ?_
    show Steps p.tables e below (s₁.setTop (mkF m 2 #[.val (.int p1), .val (.int p2), .unset, .unset, .unset, .unset, .unset, .unset] [(.int (7 : Int32))])) _
    refine st1 _ ?_
    show Steps p.tables e below (T1.setTop (mkF m 5 #[.val (.int p1), .val (.int p2), .unset, .unset, .unset, .unset, .unset, .unset] [(.ref b1)])) _
    refine XS.dup X1.here hx rfl (hb hby at_5) rfl rfl ?_
    show Steps p.tables e below (T1.setTop (mkF m 6 #[.val (.int p1), .val (.int p2), .unset, .unset, .unset, .unset, .unset, .unset] [(.ref b1), (.ref b1)])) _
    refine XS.iconst X1.here hx rfl (hb hby at_6) ?_
    show Steps p.tables e below (T1.setTop (mkF m 7 #[.val (.int p1), .val (.int p2), .unset, .unset, .unset, .unset, .unset, .unset] [(.int (0 : Int32)), (.ref b1), (.ref b1)])) _
    refine st11 _ ?_
    show Steps p.tables e below (T11.setTop (mkF m 10 #[.val (.int p1), .val (.int p2), .unset, .unset, .unset, .unset, .unset, .unset] [(.ref w0), (.int (0 : Int32)), (.ref b1), (.ref b1)])) _
    refine st12 _ ?_
    show Steps p.tables e below (T12.setTop (mkF m 11 #[.val (.int p1), .val (.int p2), .unset, .unset, .unset, .unset, .unset, .unset] [(.ref b1)])) _
    refine XS.dup X12.here hx rfl (hb hby at_11) rfl rfl ?_
    show Steps p.tables e below (T12.setTop (mkF m 12 #[.val (.int p1), .val (.int p2), .unset, .unset, .unset, .unset, .unset, .unset] [(.ref b1), (.ref b1)])) _
    refine XS.iconst X12.here hx rfl (hb hby at_12) ?_
    show Steps p.tables e below (T12.setTop (mkF m 13 #[.val (.int p1), .val (.int p2), .unset, .unset, .unset, .unset, .unset, .unset] [(.int (1 : Int32)), (.ref b1), (.ref b1)])) _
    refine st16 _ ?_
    show Steps p.tables e below (T16.setTop (mkF m 16 #[.val (.int p1), .val (.int p2), .unset, .unset, .unset, .unset, .unset, .unset] [(.ref w1), (.int (1 : Int32)), (.ref b1), (.ref b1)])) _
    refine st17 _ ?_
    show Steps p.tables e below (T17.setTop (mkF m 17 #[.val (.int p1), .val (.int p2), .unset, .unset, .unset, .unset, .unset, .unset] [(.ref b1)])) _
    refine XS.dup X17.here hx rfl (hb hby at_17) rfl rfl ?_
    show Steps p.tables e below (T17.setTop (mkF m 18 #[.val (.int p1), .val (.int p2), .unset, .unset, .unset, .unset, .unset, .unset] [(.ref b1), (.ref b1)])) _
    refine XS.iconst X17.here hx rfl (hb hby at_18) ?_
    show Steps p.tables e below (T17.setTop (mkF m 19 #[.val (.int p1), .val (.int p2), .unset, .unset, .unset, .unset, .unset, .unset] [(.int (2 : Int32)), (.ref b1), (.ref b1)])) _
    refine st21 _ ?_
    show Steps p.tables e below (T21.setTop (mkF m 22 #[.val (.int p1), .val (.int p2), .unset, .unset, .unset, .unset, .unset, .unset] [(.ref w2), (.int (2 : Int32)), (.ref b1), (.ref b1)])) _
    refine st22 _ ?_
    show Steps p.tables e below (T22.setTop (mkF m 23 #[.val (.int p1), .val (.int p2), .unset, .unset, .unset, .unset, .unset, .unset] [(.ref b1)])) _
    refine XS.dup X22.here hx rfl (hb hby at_23) rfl rfl ?_
    show Steps p.tables e below (T22.setTop (mkF m 24 #[.val (.int p1), .val (.int p2), .unset, .unset, .unset, .unset, .unset, .unset] [(.ref b1), (.ref b1)])) _
    refine XS.iconst X22.here hx rfl (hb hby at_24) ?_
    show Steps p.tables e below (T22.setTop (mkF m 25 #[.val (.int p1), .val (.int p2), .unset, .unset, .unset, .unset, .unset, .unset] [(.int (3 : Int32)), (.ref b1), (.ref b1)])) _
    refine st26 _ ?_
    show Steps p.tables e below (T26.setTop (mkF m 28 #[.val (.int p1), .val (.int p2), .unset, .unset, .unset, .unset, .unset, .unset] [(.ref w3), (.int (3 : Int32)), (.ref b1), (.ref b1)])) _
    refine st27 _ ?_
    show Steps p.tables e below (T27.setTop (mkF m 29 #[.val (.int p1), .val (.int p2), .unset, .unset, .unset, .unset, .unset, .unset] [(.ref b1)])) _
    refine XS.dup X27.here hx rfl (hb hby at_29) rfl rfl ?_
    show Steps p.tables e below (T27.setTop (mkF m 30 #[.val (.int p1), .val (.int p2), .unset, .unset, .unset, .unset, .unset, .unset] [(.ref b1), (.ref b1)])) _
    refine XS.iconst X27.here hx rfl (hb hby at_30) ?_
    show Steps p.tables e below (T27.setTop (mkF m 31 #[.val (.int p1), .val (.int p2), .unset, .unset, .unset, .unset, .unset, .unset] [(.int (4 : Int32)), (.ref b1), (.ref b1)])) _
    refine st31 _ ?_
    show Steps p.tables e below (T31.setTop (mkF m 34 #[.val (.int p1), .val (.int p2), .unset, .unset, .unset, .unset, .unset, .unset] [(.ref w4), (.int (4 : Int32)), (.ref b1), (.ref b1)])) _
    refine st32 _ ?_
    show Steps p.tables e below (T32.setTop (mkF m 35 #[.val (.int p1), .val (.int p2), .unset, .unset, .unset, .unset, .unset, .unset] [(.ref b1)])) _
    refine XS.dup X32.here hx rfl (hb hby at_35) rfl rfl ?_
    show Steps p.tables e below (T32.setTop (mkF m 36 #[.val (.int p1), .val (.int p2), .unset, .unset, .unset, .unset, .unset, .unset] [(.ref b1), (.ref b1)])) _
    refine XS.iconst X32.here hx rfl (hb hby at_36) ?_
    show Steps p.tables e below (T32.setTop (mkF m 37 #[.val (.int p1), .val (.int p2), .unset, .unset, .unset, .unset, .unset, .unset] [(.int (5 : Int32)), (.ref b1), (.ref b1)])) _
    refine st36 _ ?_
    show Steps p.tables e below (T36.setTop (mkF m 40 #[.val (.int p1), .val (.int p2), .unset, .unset, .unset, .unset, .unset, .unset] [(.ref w5), (.int (5 : Int32)), (.ref b1), (.ref b1)])) _
    refine st37 _ ?_
    show Steps p.tables e below (T37.setTop (mkF m 41 #[.val (.int p1), .val (.int p2), .unset, .unset, .unset, .unset, .unset, .unset] [(.ref b1)])) _
    refine XS.dup X37.here hx rfl (hb hby at_41) rfl rfl ?_
    show Steps p.tables e below (T37.setTop (mkF m 42 #[.val (.int p1), .val (.int p2), .unset, .unset, .unset, .unset, .unset, .unset] [(.ref b1), (.ref b1)])) _
    refine XS.bipush X37.here hx rfl (hb hby at_42) ?_
    show Steps p.tables e below (T37.setTop (mkF m 44 #[.val (.int p1), .val (.int p2), .unset, .unset, .unset, .unset, .unset, .unset] [(.int (6 : Int32)), (.ref b1), (.ref b1)])) _
    refine st41 _ ?_
    show Steps p.tables e below (T41.setTop (mkF m 47 #[.val (.int p1), .val (.int p2), .unset, .unset, .unset, .unset, .unset, .unset] [(.ref w6), (.int (6 : Int32)), (.ref b1), (.ref b1)])) _
    refine st42 _ ?_
    show Steps p.tables e below (T42.setTop (mkF m 48 #[.val (.int p1), .val (.int p2), .unset, .unset, .unset, .unset, .unset, .unset] [(.ref b1)])) _
    refine XS.astoreN X42.here hx rfl (hb hby at_48) rfl rfl (l' := #[.val (.int p1), .val (.int p2), .val (.ref b1), .unset, .unset, .unset, .unset, .unset]) rfl ?_
    show Steps p.tables e below (T42.setTop (mkF m 49 #[.val (.int p1), .val (.int p2), .val (.ref b1), .unset, .unset, .unset, .unset, .unset] [])) _
    refine XS.iloadN X42.here hx rfl (hb hby at_49) rfl ?_
    show Steps p.tables e below (T42.setTop (mkF m 50 #[.val (.int p1), .val (.int p2), .val (.ref b1), .unset, .unset, .unset, .unset, .unset] [(.int p1)])) _
    refine X42.ldcInt hx hown (mvT hZ (hw _ (List.mem_of_getElem? (i := 18) rfl))) (g := (mkF m 50 #[.val (.int p1), .val (.int p2), .val (.ref b1), .unset, .unset, .unset, .unset, .unset] [(.int p1)])) rfl (hb hby at_50) _ ?_
    show Steps p.tables e below (T42.setTop (mkF m 52 #[.val (.int p1), .val (.int p2), .val (.ref b1), .unset, .unset, .unset, .unset, .unset] [(.int (2147483647 : Int32)), (.int p1)])) _
    refine XS.iand X42.here hx rfl (hb hby at_52) rfl ?_
    show Steps p.tables e below (T42.setTop (mkF m 53 #[.val (.int p1), .val (.int p2), .val (.ref b1), .unset, .unset, .unset, .unset, .unset] [(.int (p1 &&& (2147483647 : Int32)))])) _
    refine XS.bipush X42.here hx rfl (hb hby at_53) ?_
    show Steps p.tables e below (T42.setTop (mkF m 55 #[.val (.int p1), .val (.int p2), .val (.ref b1), .unset, .unset, .unset, .unset, .unset] [(.int (7 : Int32)), (.int (p1 &&& (2147483647 : Int32)))])) _
    refine iremM (g := (mkF m 55 #[.val (.int p1), .val (.int p2), .val (.ref b1), .unset, .unset, .unset, .unset, .unset] [(.int (7 : Int32)), (.int (p1 &&& (2147483647 : Int32)))])) X42 hx rfl (hb hby at_55) rfl (by decide) ?_
    show Steps p.tables e below (T42.setTop (mkF m 56 #[.val (.int p1), .val (.int p2), .val (.ref b1), .unset, .unset, .unset, .unset, .unset] [(.int ((p1 &&& (2147483647 : Int32)) % (7 : Int32)))])) _
    refine XS.istoreN X42.here hx rfl (hb hby at_56) rfl (l' := #[.val (.int p1), .val (.int p2), .val (.ref b1), .val (.int ((p1 &&& (2147483647 : Int32)) % (7 : Int32))), .unset, .unset, .unset, .unset]) rfl ?_
    show Steps p.tables e below (T42.setTop (mkF m 57 #[.val (.int p1), .val (.int p2), .val (.ref b1), .val (.int ((p1 &&& (2147483647 : Int32)) % (7 : Int32))), .unset, .unset, .unset, .unset] [])) _
    refine XS.iloadN X42.here hx rfl (hb hby at_57) rfl ?_
    show Steps p.tables e below (T42.setTop (mkF m 58 #[.val (.int p1), .val (.int p2), .val (.ref b1), .val (.int ((p1 &&& (2147483647 : Int32)) % (7 : Int32))), .unset, .unset, .unset, .unset] [(.int p2)])) _
    refine X42.ldcInt hx hown (mvT hZ (hw _ (List.mem_of_getElem? (i := 18) rfl))) (g := (mkF m 58 #[.val (.int p1), .val (.int p2), .val (.ref b1), .val (.int ((p1 &&& (2147483647 : Int32)) % (7 : Int32))), .unset, .unset, .unset, .unset] [(.int p2)])) rfl (hb hby at_58) _ ?_
    show Steps p.tables e below (T42.setTop (mkF m 60 #[.val (.int p1), .val (.int p2), .val (.ref b1), .val (.int ((p1 &&& (2147483647 : Int32)) % (7 : Int32))), .unset, .unset, .unset, .unset] [(.int (2147483647 : Int32)), (.int p2)])) _
    refine XS.iand X42.here hx rfl (hb hby at_60) rfl ?_
    show Steps p.tables e below (T42.setTop (mkF m 61 #[.val (.int p1), .val (.int p2), .val (.ref b1), .val (.int ((p1 &&& (2147483647 : Int32)) % (7 : Int32))), .unset, .unset, .unset, .unset] [(.int (p2 &&& (2147483647 : Int32)))])) _
    refine XS.bipush X42.here hx rfl (hb hby at_61) ?_
    show Steps p.tables e below (T42.setTop (mkF m 63 #[.val (.int p1), .val (.int p2), .val (.ref b1), .val (.int ((p1 &&& (2147483647 : Int32)) % (7 : Int32))), .unset, .unset, .unset, .unset] [(.int (7 : Int32)), (.int (p2 &&& (2147483647 : Int32)))])) _
    refine iremM (g := (mkF m 63 #[.val (.int p1), .val (.int p2), .val (.ref b1), .val (.int ((p1 &&& (2147483647 : Int32)) % (7 : Int32))), .unset, .unset, .unset, .unset] [(.int (7 : Int32)), (.int (p2 &&& (2147483647 : Int32)))])) X42 hx rfl (hb hby at_63) rfl (by decide) ?_
    show Steps p.tables e below (T42.setTop (mkF m 64 #[.val (.int p1), .val (.int p2), .val (.ref b1), .val (.int ((p1 &&& (2147483647 : Int32)) % (7 : Int32))), .unset, .unset, .unset, .unset] [(.int ((p2 &&& (2147483647 : Int32)) % (7 : Int32)))])) _
    refine XS.istore X42.here hx rfl (hb hby at_64) rfl (l' := #[.val (.int p1), .val (.int p2), .val (.ref b1), .val (.int ((p1 &&& (2147483647 : Int32)) % (7 : Int32))), .val (.int ((p2 &&& (2147483647 : Int32)) % (7 : Int32))), .unset, .unset, .unset]) rfl ?_
    show Steps p.tables e below (T42.setTop (mkF m 66 #[.val (.int p1), .val (.int p2), .val (.ref b1), .val (.int ((p1 &&& (2147483647 : Int32)) % (7 : Int32))), .val (.int ((p2 &&& (2147483647 : Int32)) % (7 : Int32))), .unset, .unset, .unset] [])) _
    exact kt_
  obtain ⟨jj, hjd⟩ : ∃ z, z = ((p2 &&& (2147483647 : Int32)) % (7 : Int32)) := ⟨_, rfl⟩
  rw [← hjd] at pre45
  have hjj : jj = 0 ∨ jj = 1 ∨ jj = 2 ∨ jj = 3 ∨ jj = 4 ∨ jj = 5 ∨ jj = 6 := by rw [hjd]; exact own_m7 p2
  rcases own_m7 p1 with hi0 | hi1 | hi2 | hi3 | hi4 | hi5 | hi6
  ·
    rw [hi0] at pre45
    obtain ⟨cl46, Ar46, q46, Sz46, Ng46, Hs46, Gf46⟩ := id V42
    have hin46 := inb_of Sz46 (j := (0 : Int32)) ⟨by decide, by decide⟩
    have c47 := E0.ext O44.2
    have c48 := S3.ext O44.2
    have c49 := S4.ext O44.2
    have c50 := S5.ext O44.2
    have c51 := S6.ext O44.2
    obtain ⟨cq52, kq52, q52a, q52b, q52c⟩ := isOf hZ eh42 c47
    obtain ⟨_, _, ⟨T52, L52, k52, n52⟩, -, X52, ⟨Lc52, hQ52, l52, y52, z52⟩, st52⟩ := X42.virtualBack hx (y := (⟨"com/example/workd/workd/model/JobState", "isEndState", "()Z"⟩ : MethodName)) (z := (⟨"com/example/workd/workd/model/JobState", "isEndState", "()Z"⟩ : MethodName)) hown (mvT hZ (hw _ (List.mem_of_getElem? (i := 19) rfl))) (mvT hZ (hw _ (List.mem_of_getElem? (i := 20) rfl))) (notFace_of_selects (args := #[]) (mvT hZ (hw _ (List.mem_of_getElem? (i := 22) rfl)))) (mvT hZ (hw _ (List.mem_of_getElem? (i := 22) rfl))) (mvT hZ (hw _ (List.mem_of_getElem? (i := 21) rfl))) (by decide) (backOf (W := 0) (rmE l Z a0 hw [] w0 w3 w4 w5 w6 (0 : Int32) h42 n0 Zs44 c48 c49 c50 c51 (by rw [if_neg ne_0_3, if_neg ne_0_4, if_neg ne_0_5, if_neg ne_0_6])) hZ (hw _ (List.mem_of_getElem? (i := 23) rfl)) (hw _ (List.mem_of_getElem? (i := 3) rfl)) (by decide) (by decide)) q52a q52c (g := (mkF m 85 #[.val (.int p1), .val (.int p2), .val (.ref b1), .val (.int (0 : Int32)), .val (.int jj), .val (.ref w0), .val (.int (0 : Int32)), .unset] [(.ref w0)])) rfl (by rw [hml]; rfl) (Steps.refl _) (argsL := []) (rest := []) (lenOf own_pd2 rfl) rfl (by show 2 * 0 + _ ≤ _; exact Nat.le_of_eq rfl) (hb hby at_85) (fun _ _ => ⟨rfl, eh42, (by decide : 1 + 0 ≤ _), (by decide : 7 + 0 ≤ _)⟩)
    dsimp only [Pt.U, Pt.locs, Pt.cells, Pt.slots] at X52 l52 y52 z52 st52 hQ52
    subst l52 y52 z52
    obtain ⟨rfl, N52q, eq52⟩ := hQ52
    have N52 := Fr.app N44 N52q
    obtain ⟨fs, hr, hrun, hended, hW, hsame⟩ := X52.leave (v := some (.int (1 : Int32))) (fun h => by rw [Bd.returns] at h; cases h)
    refine ⟨_, _, pre45 _ ?_, hrun, hended, _, _, rfl, ?_, Jvm.RoadKit.wide ⟨⟨_, rfl⟩, hW, hsame.mono (by decide) (by decide)⟩⟩
    ·
      show Steps p.tables e below (T42.setTop (mkF m 66 #[.val (.int p1), .val (.int p2), .val (.ref b1), .val (.int (0 : Int32)), .val (.int jj), .unset, .unset, .unset] [])) _
      refine XS.aloadN X42.here hx rfl (hb hby at_66) rfl rfl ?_
      show Steps p.tables e below (T42.setTop (mkF m 67 #[.val (.int p1), .val (.int p2), .val (.ref b1), .val (.int (0 : Int32)), .val (.int jj), .unset, .unset, .unset] [(.ref b1)])) _
      refine XS.iloadN X42.here hx rfl (hb hby at_67) rfl ?_
      show Steps p.tables e below (T42.setTop (mkF m 68 #[.val (.int p1), .val (.int p2), .val (.ref b1), .val (.int (0 : Int32)), .val (.int jj), .unset, .unset, .unset] [(.int (0 : Int32)), (.ref b1)])) _
      refine X42.aaload hx (j := (0 : Int32)) (v := (.ref w0)) (by rw [eh42]; exact Ar46.1) (State.isArrayOf_alike hZ.alike Ar46.2.1) rfl Ar46.2.2 hin46 (Hs46.at hin46 rfl) (g := (mkF m 68 #[.val (.int p1), .val (.int p2), .val (.ref b1), .val (.int (0 : Int32)), .val (.int jj), .unset, .unset, .unset] [(.int (0 : Int32)), (.ref b1)])) rfl rfl (hb hby at_68) _ ?_
      show Steps p.tables e below (T42.setTop (mkF m 69 #[.val (.int p1), .val (.int p2), .val (.ref b1), .val (.int (0 : Int32)), .val (.int jj), .unset, .unset, .unset] [(.ref w0)])) _
      refine XS.astore X42.here hx rfl (hb hby at_69) rfl rfl (l' := #[.val (.int p1), .val (.int p2), .val (.ref b1), .val (.int (0 : Int32)), .val (.int jj), .val (.ref w0), .unset, .unset]) rfl ?_
      show Steps p.tables e below (T42.setTop (mkF m 71 #[.val (.int p1), .val (.int p2), .val (.ref b1), .val (.int (0 : Int32)), .val (.int jj), .val (.ref w0), .unset, .unset] [])) _
      refine XS.iloadN X42.here hx rfl (hb hby at_71) rfl ?_
      show Steps p.tables e below (T42.setTop (mkF m 72 #[.val (.int p1), .val (.int p2), .val (.ref b1), .val (.int (0 : Int32)), .val (.int jj), .val (.ref w0), .unset, .unset] [(.int (0 : Int32))])) _
      refine XS.iconst X42.here hx rfl (hb hby at_72) ?_
      show Steps p.tables e below (T42.setTop (mkF m 73 #[.val (.int p1), .val (.int p2), .val (.ref b1), .val (.int (0 : Int32)), .val (.int jj), .val (.ref w0), .unset, .unset] [(.int (3 : Int32)), (.int (0 : Int32))])) _
      refine XS.icmpYes X42.here hx rfl (pc0 := 73) (pc' := 80) rfl (hb hby at_73) rfl (tlt (by decide : (0 : Int32) < (3 : Int32))).1 (by decide) (by decide) ?_
      show Steps p.tables e below (T42.setTop (mkF m 80 #[.val (.int p1), .val (.int p2), .val (.ref b1), .val (.int (0 : Int32)), .val (.int jj), .val (.ref w0), .unset, .unset] [])) _
      refine XS.iconst X42.here hx rfl (hb hby at_80) ?_
      show Steps p.tables e below (T42.setTop (mkF m 81 #[.val (.int p1), .val (.int p2), .val (.ref b1), .val (.int (0 : Int32)), .val (.int jj), .val (.ref w0), .unset, .unset] [(.int (0 : Int32))])) _
      refine XS.istore X42.here hx rfl (hb hby at_81) rfl (l' := #[.val (.int p1), .val (.int p2), .val (.ref b1), .val (.int (0 : Int32)), .val (.int jj), .val (.ref w0), .val (.int (0 : Int32)), .unset]) rfl ?_
      show Steps p.tables e below (T42.setTop (mkF m 83 #[.val (.int p1), .val (.int p2), .val (.ref b1), .val (.int (0 : Int32)), .val (.int jj), .val (.ref w0), .val (.int (0 : Int32)), .unset] [])) _
      refine XS.aload X42.here hx rfl (hb hby at_83) rfl rfl ?_
      show Steps p.tables e below (T42.setTop (mkF m 85 #[.val (.int p1), .val (.int p2), .val (.ref b1), .val (.int (0 : Int32)), .val (.int jj), .val (.ref w0), .val (.int (0 : Int32)), .unset] [(.ref w0)])) _
      refine st52.trans ?_
      show Steps p.tables e below (T52.setTop (mkF m 88 #[.val (.int p1), .val (.int p2), .val (.ref b1), .val (.int (0 : Int32)), .val (.int jj), .val (.ref w0), .val (.int (0 : Int32)), .unset] [(.int (0 : Int32))])) _
      refine XS.istore X52.here hx rfl (hb hby at_88) rfl (l' := #[.val (.int p1), .val (.int p2), .val (.ref b1), .val (.int (0 : Int32)), .val (.int jj), .val (.ref w0), .val (.int (0 : Int32)), .val (.int (0 : Int32))]) rfl ?_
      show Steps p.tables e below (T52.setTop (mkF m 90 #[.val (.int p1), .val (.int p2), .val (.ref b1), .val (.int (0 : Int32)), .val (.int jj), .val (.ref w0), .val (.int (0 : Int32)), .val (.int (0 : Int32))] [])) _
      refine XS.iload X52.here hx rfl (hb hby at_90) rfl ?_
      show Steps p.tables e below (T52.setTop (mkF m 92 #[.val (.int p1), .val (.int p2), .val (.ref b1), .val (.int (0 : Int32)), .val (.int jj), .val (.ref w0), .val (.int (0 : Int32)), .val (.int (0 : Int32))] [(.int (0 : Int32))])) _
      refine XS.iload X52.here hx rfl (hb hby at_92) rfl ?_
      show Steps p.tables e below (T52.setTop (mkF m 94 #[.val (.int p1), .val (.int p2), .val (.ref b1), .val (.int (0 : Int32)), .val (.int jj), .val (.ref w0), .val (.int (0 : Int32)), .val (.int (0 : Int32))] [(.int (0 : Int32)), (.int (0 : Int32))])) _
      refine XS.icmpYes X52.here hx rfl (pc0 := 94) (pc' := 99) rfl (hb hby at_94) rfl (teq (by decide : (0 : Int32) = (0 : Int32))).1 (by decide) (by decide) ?_
      show Steps p.tables e below (T52.setTop (mkF m 99 #[.val (.int p1), .val (.int p2), .val (.ref b1), .val (.int (0 : Int32)), .val (.int jj), .val (.ref w0), .val (.int (0 : Int32)), .val (.int (0 : Int32))] [])) _
      refine XS.iload X52.here hx rfl (hb hby at_99) rfl ?_
      show Steps p.tables e below (T52.setTop (mkF m 101 #[.val (.int p1), .val (.int p2), .val (.ref b1), .val (.int (0 : Int32)), .val (.int jj), .val (.ref w0), .val (.int (0 : Int32)), .val (.int (0 : Int32))] [(.int (0 : Int32))])) _
      refine XS.ifYes X52.here hx rfl (pc0 := 101) (pc' := 118) rfl (hb hby at_101) rfl ((if0 _ _).trans (teq (by decide : (0 : Int32) = (0 : Int32))).1) (by decide) (by decide) ?_
      show Steps p.tables e below (T52.setTop (mkF m 118 #[.val (.int p1), .val (.int p2), .val (.ref b1), .val (.int (0 : Int32)), .val (.int jj), .val (.ref w0), .val (.int (0 : Int32)), .val (.int (0 : Int32))] [])) _
      refine XS.iconst X52.here hx rfl (hb hby at_118) ?_
      show Steps p.tables e below (T52.setTop (mkF m 119 #[.val (.int p1), .val (.int p2), .val (.ref b1), .val (.int (0 : Int32)), .val (.int jj), .val (.ref w0), .val (.int (0 : Int32)), .val (.int (0 : Int32))] [(.int (1 : Int32))])) _
      exact retN X52 hx (t := .boolean) Bd.returns (by simp) (hb hby at_119) hr
    ·
      show Q_rm0 Z p1 p2 w0 w1 w2 w3 w4 w5 w6 h0 n0 (_) T52.heap (_)
      rw [eq52]
      exact ⟨rfl, N52⟩
  ·
    rw [hi1] at pre45
    obtain ⟨cl53, Ar53, q53, Sz53, Ng53, Hs53, Gf53⟩ := id V42
    have hin53 := inb_of Sz53 (j := (1 : Int32)) ⟨by decide, by decide⟩
    have c54 := E1.ext O44.2
    have c55 := S3.ext O44.2
    have c56 := S4.ext O44.2
    have c57 := S5.ext O44.2
    have c58 := S6.ext O44.2
    obtain ⟨cq59, kq59, q59a, q59b, q59c⟩ := isOf hZ eh42 c54
    obtain ⟨_, _, ⟨T59, L59, k59, n59⟩, -, X59, ⟨Lc59, hQ59, l59, y59, z59⟩, st59⟩ := X42.virtualBack hx (y := (⟨"com/example/workd/workd/model/JobState", "isEndState", "()Z"⟩ : MethodName)) (z := (⟨"com/example/workd/workd/model/JobState", "isEndState", "()Z"⟩ : MethodName)) hown (mvT hZ (hw _ (List.mem_of_getElem? (i := 19) rfl))) (mvT hZ (hw _ (List.mem_of_getElem? (i := 20) rfl))) (notFace_of_selects (args := #[]) (mvT hZ (hw _ (List.mem_of_getElem? (i := 22) rfl)))) (mvT hZ (hw _ (List.mem_of_getElem? (i := 22) rfl))) (mvT hZ (hw _ (List.mem_of_getElem? (i := 21) rfl))) (by decide) (backOf (W := 0) (rmE l Z a0 hw [] w1 w3 w4 w5 w6 (0 : Int32) h42 n0 Zs44 c55 c56 c57 c58 (by rw [if_neg ne_1_3, if_neg ne_1_4, if_neg ne_1_5, if_neg ne_1_6])) hZ (hw _ (List.mem_of_getElem? (i := 23) rfl)) (hw _ (List.mem_of_getElem? (i := 3) rfl)) (by decide) (by decide)) q59a q59c (g := (mkF m 85 #[.val (.int p1), .val (.int p2), .val (.ref b1), .val (.int (1 : Int32)), .val (.int jj), .val (.ref w1), .val (.int (0 : Int32)), .unset] [(.ref w1)])) rfl (by rw [hml]; rfl) (Steps.refl _) (argsL := []) (rest := []) (lenOf own_pd2 rfl) rfl (by show 2 * 0 + _ ≤ _; exact Nat.le_of_eq rfl) (hb hby at_85) (fun _ _ => ⟨rfl, eh42, (by decide : 1 + 0 ≤ _), (by decide : 7 + 0 ≤ _)⟩)
    dsimp only [Pt.U, Pt.locs, Pt.cells, Pt.slots] at X59 l59 y59 z59 st59 hQ59
    subst l59 y59 z59
    obtain ⟨rfl, N59q, eq59⟩ := hQ59
    have N59 := Fr.app N44 N59q
    obtain ⟨fs, hr, hrun, hended, hW, hsame⟩ := X59.leave (v := some (.int (1 : Int32))) (fun h => by rw [Bd.returns] at h; cases h)
    refine ⟨_, _, pre45 _ ?_, hrun, hended, _, _, rfl, ?_, Jvm.RoadKit.wide ⟨⟨_, rfl⟩, hW, hsame.mono (by decide) (by decide)⟩⟩
    ·
      show Steps p.tables e below (T42.setTop (mkF m 66 #[.val (.int p1), .val (.int p2), .val (.ref b1), .val (.int (1 : Int32)), .val (.int jj), .unset, .unset, .unset] [])) _
      refine XS.aloadN X42.here hx rfl (hb hby at_66) rfl rfl ?_
      show Steps p.tables e below (T42.setTop (mkF m 67 #[.val (.int p1), .val (.int p2), .val (.ref b1), .val (.int (1 : Int32)), .val (.int jj), .unset, .unset, .unset] [(.ref b1)])) _
      refine XS.iloadN X42.here hx rfl (hb hby at_67) rfl ?_
      show Steps p.tables e below (T42.setTop (mkF m 68 #[.val (.int p1), .val (.int p2), .val (.ref b1), .val (.int (1 : Int32)), .val (.int jj), .unset, .unset, .unset] [(.int (1 : Int32)), (.ref b1)])) _
      refine X42.aaload hx (j := (1 : Int32)) (v := (.ref w1)) (by rw [eh42]; exact Ar53.1) (State.isArrayOf_alike hZ.alike Ar53.2.1) rfl Ar53.2.2 hin53 (Hs53.at hin53 rfl) (g := (mkF m 68 #[.val (.int p1), .val (.int p2), .val (.ref b1), .val (.int (1 : Int32)), .val (.int jj), .unset, .unset, .unset] [(.int (1 : Int32)), (.ref b1)])) rfl rfl (hb hby at_68) _ ?_
      show Steps p.tables e below (T42.setTop (mkF m 69 #[.val (.int p1), .val (.int p2), .val (.ref b1), .val (.int (1 : Int32)), .val (.int jj), .unset, .unset, .unset] [(.ref w1)])) _
      refine XS.astore X42.here hx rfl (hb hby at_69) rfl rfl (l' := #[.val (.int p1), .val (.int p2), .val (.ref b1), .val (.int (1 : Int32)), .val (.int jj), .val (.ref w1), .unset, .unset]) rfl ?_
      show Steps p.tables e below (T42.setTop (mkF m 71 #[.val (.int p1), .val (.int p2), .val (.ref b1), .val (.int (1 : Int32)), .val (.int jj), .val (.ref w1), .unset, .unset] [])) _
      refine XS.iloadN X42.here hx rfl (hb hby at_71) rfl ?_
      show Steps p.tables e below (T42.setTop (mkF m 72 #[.val (.int p1), .val (.int p2), .val (.ref b1), .val (.int (1 : Int32)), .val (.int jj), .val (.ref w1), .unset, .unset] [(.int (1 : Int32))])) _
      refine XS.iconst X42.here hx rfl (hb hby at_72) ?_
      show Steps p.tables e below (T42.setTop (mkF m 73 #[.val (.int p1), .val (.int p2), .val (.ref b1), .val (.int (1 : Int32)), .val (.int jj), .val (.ref w1), .unset, .unset] [(.int (3 : Int32)), (.int (1 : Int32))])) _
      refine XS.icmpYes X42.here hx rfl (pc0 := 73) (pc' := 80) rfl (hb hby at_73) rfl (tlt (by decide : (1 : Int32) < (3 : Int32))).1 (by decide) (by decide) ?_
      show Steps p.tables e below (T42.setTop (mkF m 80 #[.val (.int p1), .val (.int p2), .val (.ref b1), .val (.int (1 : Int32)), .val (.int jj), .val (.ref w1), .unset, .unset] [])) _
      refine XS.iconst X42.here hx rfl (hb hby at_80) ?_
      show Steps p.tables e below (T42.setTop (mkF m 81 #[.val (.int p1), .val (.int p2), .val (.ref b1), .val (.int (1 : Int32)), .val (.int jj), .val (.ref w1), .unset, .unset] [(.int (0 : Int32))])) _
      refine XS.istore X42.here hx rfl (hb hby at_81) rfl (l' := #[.val (.int p1), .val (.int p2), .val (.ref b1), .val (.int (1 : Int32)), .val (.int jj), .val (.ref w1), .val (.int (0 : Int32)), .unset]) rfl ?_
      show Steps p.tables e below (T42.setTop (mkF m 83 #[.val (.int p1), .val (.int p2), .val (.ref b1), .val (.int (1 : Int32)), .val (.int jj), .val (.ref w1), .val (.int (0 : Int32)), .unset] [])) _
      refine XS.aload X42.here hx rfl (hb hby at_83) rfl rfl ?_
      show Steps p.tables e below (T42.setTop (mkF m 85 #[.val (.int p1), .val (.int p2), .val (.ref b1), .val (.int (1 : Int32)), .val (.int jj), .val (.ref w1), .val (.int (0 : Int32)), .unset] [(.ref w1)])) _
      refine st59.trans ?_
      show Steps p.tables e below (T59.setTop (mkF m 88 #[.val (.int p1), .val (.int p2), .val (.ref b1), .val (.int (1 : Int32)), .val (.int jj), .val (.ref w1), .val (.int (0 : Int32)), .unset] [(.int (0 : Int32))])) _
      refine XS.istore X59.here hx rfl (hb hby at_88) rfl (l' := #[.val (.int p1), .val (.int p2), .val (.ref b1), .val (.int (1 : Int32)), .val (.int jj), .val (.ref w1), .val (.int (0 : Int32)), .val (.int (0 : Int32))]) rfl ?_
      show Steps p.tables e below (T59.setTop (mkF m 90 #[.val (.int p1), .val (.int p2), .val (.ref b1), .val (.int (1 : Int32)), .val (.int jj), .val (.ref w1), .val (.int (0 : Int32)), .val (.int (0 : Int32))] [])) _
      refine XS.iload X59.here hx rfl (hb hby at_90) rfl ?_
      show Steps p.tables e below (T59.setTop (mkF m 92 #[.val (.int p1), .val (.int p2), .val (.ref b1), .val (.int (1 : Int32)), .val (.int jj), .val (.ref w1), .val (.int (0 : Int32)), .val (.int (0 : Int32))] [(.int (0 : Int32))])) _
      refine XS.iload X59.here hx rfl (hb hby at_92) rfl ?_
      show Steps p.tables e below (T59.setTop (mkF m 94 #[.val (.int p1), .val (.int p2), .val (.ref b1), .val (.int (1 : Int32)), .val (.int jj), .val (.ref w1), .val (.int (0 : Int32)), .val (.int (0 : Int32))] [(.int (0 : Int32)), (.int (0 : Int32))])) _
      refine XS.icmpYes X59.here hx rfl (pc0 := 94) (pc' := 99) rfl (hb hby at_94) rfl (teq (by decide : (0 : Int32) = (0 : Int32))).1 (by decide) (by decide) ?_
      show Steps p.tables e below (T59.setTop (mkF m 99 #[.val (.int p1), .val (.int p2), .val (.ref b1), .val (.int (1 : Int32)), .val (.int jj), .val (.ref w1), .val (.int (0 : Int32)), .val (.int (0 : Int32))] [])) _
      refine XS.iload X59.here hx rfl (hb hby at_99) rfl ?_
      show Steps p.tables e below (T59.setTop (mkF m 101 #[.val (.int p1), .val (.int p2), .val (.ref b1), .val (.int (1 : Int32)), .val (.int jj), .val (.ref w1), .val (.int (0 : Int32)), .val (.int (0 : Int32))] [(.int (0 : Int32))])) _
      refine XS.ifYes X59.here hx rfl (pc0 := 101) (pc' := 118) rfl (hb hby at_101) rfl ((if0 _ _).trans (teq (by decide : (0 : Int32) = (0 : Int32))).1) (by decide) (by decide) ?_
      show Steps p.tables e below (T59.setTop (mkF m 118 #[.val (.int p1), .val (.int p2), .val (.ref b1), .val (.int (1 : Int32)), .val (.int jj), .val (.ref w1), .val (.int (0 : Int32)), .val (.int (0 : Int32))] [])) _
      refine XS.iconst X59.here hx rfl (hb hby at_118) ?_
      show Steps p.tables e below (T59.setTop (mkF m 119 #[.val (.int p1), .val (.int p2), .val (.ref b1), .val (.int (1 : Int32)), .val (.int jj), .val (.ref w1), .val (.int (0 : Int32)), .val (.int (0 : Int32))] [(.int (1 : Int32))])) _
      exact retN X59 hx (t := .boolean) Bd.returns (by simp) (hb hby at_119) hr
    ·
      show Q_rm0 Z p1 p2 w0 w1 w2 w3 w4 w5 w6 h0 n0 (_) T59.heap (_)
      rw [eq59]
      exact ⟨rfl, N59⟩
  ·
    rw [hi2] at pre45
    obtain ⟨cl60, Ar60, q60, Sz60, Ng60, Hs60, Gf60⟩ := id V42
    have hin60 := inb_of Sz60 (j := (2 : Int32)) ⟨by decide, by decide⟩
    have c61 := E2.ext O44.2
    have c62 := S3.ext O44.2
    have c63 := S4.ext O44.2
    have c64 := S5.ext O44.2
    have c65 := S6.ext O44.2
    obtain ⟨cq66, kq66, q66a, q66b, q66c⟩ := isOf hZ eh42 c61
    obtain ⟨_, _, ⟨T66, L66, k66, n66⟩, -, X66, ⟨Lc66, hQ66, l66, y66, z66⟩, st66⟩ := X42.virtualBack hx (y := (⟨"com/example/workd/workd/model/JobState", "isEndState", "()Z"⟩ : MethodName)) (z := (⟨"com/example/workd/workd/model/JobState", "isEndState", "()Z"⟩ : MethodName)) hown (mvT hZ (hw _ (List.mem_of_getElem? (i := 19) rfl))) (mvT hZ (hw _ (List.mem_of_getElem? (i := 20) rfl))) (notFace_of_selects (args := #[]) (mvT hZ (hw _ (List.mem_of_getElem? (i := 22) rfl)))) (mvT hZ (hw _ (List.mem_of_getElem? (i := 22) rfl))) (mvT hZ (hw _ (List.mem_of_getElem? (i := 21) rfl))) (by decide) (backOf (W := 0) (rmE l Z a0 hw [] w2 w3 w4 w5 w6 (0 : Int32) h42 n0 Zs44 c62 c63 c64 c65 (by rw [if_neg ne_2_3, if_neg ne_2_4, if_neg ne_2_5, if_neg ne_2_6])) hZ (hw _ (List.mem_of_getElem? (i := 23) rfl)) (hw _ (List.mem_of_getElem? (i := 3) rfl)) (by decide) (by decide)) q66a q66c (g := (mkF m 85 #[.val (.int p1), .val (.int p2), .val (.ref b1), .val (.int (2 : Int32)), .val (.int jj), .val (.ref w2), .val (.int (0 : Int32)), .unset] [(.ref w2)])) rfl (by rw [hml]; rfl) (Steps.refl _) (argsL := []) (rest := []) (lenOf own_pd2 rfl) rfl (by show 2 * 0 + _ ≤ _; exact Nat.le_of_eq rfl) (hb hby at_85) (fun _ _ => ⟨rfl, eh42, (by decide : 1 + 0 ≤ _), (by decide : 7 + 0 ≤ _)⟩)
    dsimp only [Pt.U, Pt.locs, Pt.cells, Pt.slots] at X66 l66 y66 z66 st66 hQ66
    subst l66 y66 z66
    obtain ⟨rfl, N66q, eq66⟩ := hQ66
    have N66 := Fr.app N44 N66q
    obtain ⟨fs, hr, hrun, hended, hW, hsame⟩ := X66.leave (v := some (.int (1 : Int32))) (fun h => by rw [Bd.returns] at h; cases h)
    refine ⟨_, _, pre45 _ ?_, hrun, hended, _, _, rfl, ?_, Jvm.RoadKit.wide ⟨⟨_, rfl⟩, hW, hsame.mono (by decide) (by decide)⟩⟩
    ·
      show Steps p.tables e below (T42.setTop (mkF m 66 #[.val (.int p1), .val (.int p2), .val (.ref b1), .val (.int (2 : Int32)), .val (.int jj), .unset, .unset, .unset] [])) _
      refine XS.aloadN X42.here hx rfl (hb hby at_66) rfl rfl ?_
      show Steps p.tables e below (T42.setTop (mkF m 67 #[.val (.int p1), .val (.int p2), .val (.ref b1), .val (.int (2 : Int32)), .val (.int jj), .unset, .unset, .unset] [(.ref b1)])) _
      refine XS.iloadN X42.here hx rfl (hb hby at_67) rfl ?_
      show Steps p.tables e below (T42.setTop (mkF m 68 #[.val (.int p1), .val (.int p2), .val (.ref b1), .val (.int (2 : Int32)), .val (.int jj), .unset, .unset, .unset] [(.int (2 : Int32)), (.ref b1)])) _
      refine X42.aaload hx (j := (2 : Int32)) (v := (.ref w2)) (by rw [eh42]; exact Ar60.1) (State.isArrayOf_alike hZ.alike Ar60.2.1) rfl Ar60.2.2 hin60 (Hs60.at hin60 rfl) (g := (mkF m 68 #[.val (.int p1), .val (.int p2), .val (.ref b1), .val (.int (2 : Int32)), .val (.int jj), .unset, .unset, .unset] [(.int (2 : Int32)), (.ref b1)])) rfl rfl (hb hby at_68) _ ?_
      show Steps p.tables e below (T42.setTop (mkF m 69 #[.val (.int p1), .val (.int p2), .val (.ref b1), .val (.int (2 : Int32)), .val (.int jj), .unset, .unset, .unset] [(.ref w2)])) _
      refine XS.astore X42.here hx rfl (hb hby at_69) rfl rfl (l' := #[.val (.int p1), .val (.int p2), .val (.ref b1), .val (.int (2 : Int32)), .val (.int jj), .val (.ref w2), .unset, .unset]) rfl ?_
      show Steps p.tables e below (T42.setTop (mkF m 71 #[.val (.int p1), .val (.int p2), .val (.ref b1), .val (.int (2 : Int32)), .val (.int jj), .val (.ref w2), .unset, .unset] [])) _
      refine XS.iloadN X42.here hx rfl (hb hby at_71) rfl ?_
      show Steps p.tables e below (T42.setTop (mkF m 72 #[.val (.int p1), .val (.int p2), .val (.ref b1), .val (.int (2 : Int32)), .val (.int jj), .val (.ref w2), .unset, .unset] [(.int (2 : Int32))])) _
      refine XS.iconst X42.here hx rfl (hb hby at_72) ?_
      show Steps p.tables e below (T42.setTop (mkF m 73 #[.val (.int p1), .val (.int p2), .val (.ref b1), .val (.int (2 : Int32)), .val (.int jj), .val (.ref w2), .unset, .unset] [(.int (3 : Int32)), (.int (2 : Int32))])) _
      refine XS.icmpYes X42.here hx rfl (pc0 := 73) (pc' := 80) rfl (hb hby at_73) rfl (tlt (by decide : (2 : Int32) < (3 : Int32))).1 (by decide) (by decide) ?_
      show Steps p.tables e below (T42.setTop (mkF m 80 #[.val (.int p1), .val (.int p2), .val (.ref b1), .val (.int (2 : Int32)), .val (.int jj), .val (.ref w2), .unset, .unset] [])) _
      refine XS.iconst X42.here hx rfl (hb hby at_80) ?_
      show Steps p.tables e below (T42.setTop (mkF m 81 #[.val (.int p1), .val (.int p2), .val (.ref b1), .val (.int (2 : Int32)), .val (.int jj), .val (.ref w2), .unset, .unset] [(.int (0 : Int32))])) _
      refine XS.istore X42.here hx rfl (hb hby at_81) rfl (l' := #[.val (.int p1), .val (.int p2), .val (.ref b1), .val (.int (2 : Int32)), .val (.int jj), .val (.ref w2), .val (.int (0 : Int32)), .unset]) rfl ?_
      show Steps p.tables e below (T42.setTop (mkF m 83 #[.val (.int p1), .val (.int p2), .val (.ref b1), .val (.int (2 : Int32)), .val (.int jj), .val (.ref w2), .val (.int (0 : Int32)), .unset] [])) _
      refine XS.aload X42.here hx rfl (hb hby at_83) rfl rfl ?_
      show Steps p.tables e below (T42.setTop (mkF m 85 #[.val (.int p1), .val (.int p2), .val (.ref b1), .val (.int (2 : Int32)), .val (.int jj), .val (.ref w2), .val (.int (0 : Int32)), .unset] [(.ref w2)])) _
      refine st66.trans ?_
      show Steps p.tables e below (T66.setTop (mkF m 88 #[.val (.int p1), .val (.int p2), .val (.ref b1), .val (.int (2 : Int32)), .val (.int jj), .val (.ref w2), .val (.int (0 : Int32)), .unset] [(.int (0 : Int32))])) _
      refine XS.istore X66.here hx rfl (hb hby at_88) rfl (l' := #[.val (.int p1), .val (.int p2), .val (.ref b1), .val (.int (2 : Int32)), .val (.int jj), .val (.ref w2), .val (.int (0 : Int32)), .val (.int (0 : Int32))]) rfl ?_
      show Steps p.tables e below (T66.setTop (mkF m 90 #[.val (.int p1), .val (.int p2), .val (.ref b1), .val (.int (2 : Int32)), .val (.int jj), .val (.ref w2), .val (.int (0 : Int32)), .val (.int (0 : Int32))] [])) _
      refine XS.iload X66.here hx rfl (hb hby at_90) rfl ?_
      show Steps p.tables e below (T66.setTop (mkF m 92 #[.val (.int p1), .val (.int p2), .val (.ref b1), .val (.int (2 : Int32)), .val (.int jj), .val (.ref w2), .val (.int (0 : Int32)), .val (.int (0 : Int32))] [(.int (0 : Int32))])) _
      refine XS.iload X66.here hx rfl (hb hby at_92) rfl ?_
      show Steps p.tables e below (T66.setTop (mkF m 94 #[.val (.int p1), .val (.int p2), .val (.ref b1), .val (.int (2 : Int32)), .val (.int jj), .val (.ref w2), .val (.int (0 : Int32)), .val (.int (0 : Int32))] [(.int (0 : Int32)), (.int (0 : Int32))])) _
      refine XS.icmpYes X66.here hx rfl (pc0 := 94) (pc' := 99) rfl (hb hby at_94) rfl (teq (by decide : (0 : Int32) = (0 : Int32))).1 (by decide) (by decide) ?_
      show Steps p.tables e below (T66.setTop (mkF m 99 #[.val (.int p1), .val (.int p2), .val (.ref b1), .val (.int (2 : Int32)), .val (.int jj), .val (.ref w2), .val (.int (0 : Int32)), .val (.int (0 : Int32))] [])) _
      refine XS.iload X66.here hx rfl (hb hby at_99) rfl ?_
      show Steps p.tables e below (T66.setTop (mkF m 101 #[.val (.int p1), .val (.int p2), .val (.ref b1), .val (.int (2 : Int32)), .val (.int jj), .val (.ref w2), .val (.int (0 : Int32)), .val (.int (0 : Int32))] [(.int (0 : Int32))])) _
      refine XS.ifYes X66.here hx rfl (pc0 := 101) (pc' := 118) rfl (hb hby at_101) rfl ((if0 _ _).trans (teq (by decide : (0 : Int32) = (0 : Int32))).1) (by decide) (by decide) ?_
      show Steps p.tables e below (T66.setTop (mkF m 118 #[.val (.int p1), .val (.int p2), .val (.ref b1), .val (.int (2 : Int32)), .val (.int jj), .val (.ref w2), .val (.int (0 : Int32)), .val (.int (0 : Int32))] [])) _
      refine XS.iconst X66.here hx rfl (hb hby at_118) ?_
      show Steps p.tables e below (T66.setTop (mkF m 119 #[.val (.int p1), .val (.int p2), .val (.ref b1), .val (.int (2 : Int32)), .val (.int jj), .val (.ref w2), .val (.int (0 : Int32)), .val (.int (0 : Int32))] [(.int (1 : Int32))])) _
      exact retN X66 hx (t := .boolean) Bd.returns (by simp) (hb hby at_119) hr
    ·
      show Q_rm0 Z p1 p2 w0 w1 w2 w3 w4 w5 w6 h0 n0 (_) T66.heap (_)
      rw [eq66]
      exact ⟨rfl, N66⟩
  ·
    rw [hi3] at pre45
    obtain ⟨cl67, Ar67, q67, Sz67, Ng67, Hs67, Gf67⟩ := id V42
    have hin67 := inb_of Sz67 (j := (3 : Int32)) ⟨by decide, by decide⟩
    have c68 := E3.ext O44.2
    have c69 := S3.ext O44.2
    have c70 := S4.ext O44.2
    have c71 := S5.ext O44.2
    have c72 := S6.ext O44.2
    obtain ⟨cq73, kq73, q73a, q73b, q73c⟩ := isOf hZ eh42 c68
    obtain ⟨_, _, ⟨T73, L73, k73, n73⟩, -, X73, ⟨Lc73, hQ73, l73, y73, z73⟩, st73⟩ := X42.virtualBack hx (y := (⟨"com/example/workd/workd/model/JobState", "isEndState", "()Z"⟩ : MethodName)) (z := (⟨"com/example/workd/workd/model/JobState", "isEndState", "()Z"⟩ : MethodName)) hown (mvT hZ (hw _ (List.mem_of_getElem? (i := 19) rfl))) (mvT hZ (hw _ (List.mem_of_getElem? (i := 20) rfl))) (notFace_of_selects (args := #[]) (mvT hZ (hw _ (List.mem_of_getElem? (i := 22) rfl)))) (mvT hZ (hw _ (List.mem_of_getElem? (i := 22) rfl))) (mvT hZ (hw _ (List.mem_of_getElem? (i := 21) rfl))) (by decide) (backOf (W := 0) (rmE l Z a0 hw [] w3 w3 w4 w5 w6 (1 : Int32) h42 n0 Zs44 c69 c70 c71 c72 (by rw [if_pos rfl])) hZ (hw _ (List.mem_of_getElem? (i := 23) rfl)) (hw _ (List.mem_of_getElem? (i := 3) rfl)) (by decide) (by decide)) q73a q73c (g := (mkF m 85 #[.val (.int p1), .val (.int p2), .val (.ref b1), .val (.int (3 : Int32)), .val (.int jj), .val (.ref w3), .val (.int (1 : Int32)), .unset] [(.ref w3)])) rfl (by rw [hml]; rfl) (Steps.refl _) (argsL := []) (rest := []) (lenOf own_pd2 rfl) rfl (by show 2 * 0 + _ ≤ _; exact Nat.le_of_eq rfl) (hb hby at_85) (fun _ _ => ⟨rfl, eh42, (by decide : 1 + 0 ≤ _), (by decide : 7 + 0 ≤ _)⟩)
    dsimp only [Pt.U, Pt.locs, Pt.cells, Pt.slots] at X73 l73 y73 z73 st73 hQ73
    subst l73 y73 z73
    obtain ⟨rfl, N73q, eq73⟩ := hQ73
    have N73 := Fr.app N44 N73q
    obtain ⟨cl74, Ar74, q74, Sz74, Ng74, Hs74, Gf74⟩ := id V42
    have hin74 := inb_of Sz74 (j := jj) (by rcases hjj with rfl | rfl | rfl | rfl | rfl | rfl | rfl <;> decide)
    obtain ⟨xx, hxx⟩ : ∃ x, ([(.ref w0), (.ref w1), (.ref w2), (.ref w3), (.ref w4), (.ref w5), (.ref w6)] : List Value).getD jj.toNatClampNeg .null = .ref x := by rcases hjj with rfl | rfl | rfl | rfl | rfl | rfl | rfl <;> exact ⟨_, rfl⟩
    have c75 := F3.ext O44.2
    have pre77 : ∀ tgt, Steps p.tables e below (T73.setTop (mkF m 110 #[.val (.int p1), .val (.int p2), .val (.ref b1), .val (.int (3 : Int32)), .val (.int jj), .val (.ref w3), .val (.int (1 : Int32)), .val (.int (1 : Int32))] [(.ref xx), (.ref w3)])) tgt → Steps p.tables e below (s₁.setTop (entryFrame m #[(.int p1), (.int p2)] maxLocals)) tgt := fun tgt kt_ => by
      refine pre45 _ ?_
      show Steps p.tables e below (T42.setTop (mkF m 66 #[.val (.int p1), .val (.int p2), .val (.ref b1), .val (.int (3 : Int32)), .val (.int jj), .unset, .unset, .unset] [])) _
      refine XS.aloadN X42.here hx rfl (hb hby at_66) rfl rfl ?_
      show Steps p.tables e below (T42.setTop (mkF m 67 #[.val (.int p1), .val (.int p2), .val (.ref b1), .val (.int (3 : Int32)), .val (.int jj), .unset, .unset, .unset] [(.ref b1)])) _
      refine XS.iloadN X42.here hx rfl (hb hby at_67) rfl ?_
      show Steps p.tables e below (T42.setTop (mkF m 68 #[.val (.int p1), .val (.int p2), .val (.ref b1), .val (.int (3 : Int32)), .val (.int jj), .unset, .unset, .unset] [(.int (3 : Int32)), (.ref b1)])) _
      refine X42.aaload hx (j := (3 : Int32)) (v := (.ref w3)) (by rw [eh42]; exact Ar67.1) (State.isArrayOf_alike hZ.alike Ar67.2.1) rfl Ar67.2.2 hin67 (Hs67.at hin67 rfl) (g := (mkF m 68 #[.val (.int p1), .val (.int p2), .val (.ref b1), .val (.int (3 : Int32)), .val (.int jj), .unset, .unset, .unset] [(.int (3 : Int32)), (.ref b1)])) rfl rfl (hb hby at_68) _ ?_
      show Steps p.tables e below (T42.setTop (mkF m 69 #[.val (.int p1), .val (.int p2), .val (.ref b1), .val (.int (3 : Int32)), .val (.int jj), .unset, .unset, .unset] [(.ref w3)])) _
      refine XS.astore X42.here hx rfl (hb hby at_69) rfl rfl (l' := #[.val (.int p1), .val (.int p2), .val (.ref b1), .val (.int (3 : Int32)), .val (.int jj), .val (.ref w3), .unset, .unset]) rfl ?_
      show Steps p.tables e below (T42.setTop (mkF m 71 #[.val (.int p1), .val (.int p2), .val (.ref b1), .val (.int (3 : Int32)), .val (.int jj), .val (.ref w3), .unset, .unset] [])) _
      refine XS.iloadN X42.here hx rfl (hb hby at_71) rfl ?_
      show Steps p.tables e below (T42.setTop (mkF m 72 #[.val (.int p1), .val (.int p2), .val (.ref b1), .val (.int (3 : Int32)), .val (.int jj), .val (.ref w3), .unset, .unset] [(.int (3 : Int32))])) _
      refine XS.iconst X42.here hx rfl (hb hby at_72) ?_
      show Steps p.tables e below (T42.setTop (mkF m 73 #[.val (.int p1), .val (.int p2), .val (.ref b1), .val (.int (3 : Int32)), .val (.int jj), .val (.ref w3), .unset, .unset] [(.int (3 : Int32)), (.int (3 : Int32))])) _
      refine XS.icmpNo X42.here hx rfl (hb hby at_73) rfl (flt (by decide : ¬ ((3 : Int32) < (3 : Int32)))).1 ?_
      show Steps p.tables e below (T42.setTop (mkF m 76 #[.val (.int p1), .val (.int p2), .val (.ref b1), .val (.int (3 : Int32)), .val (.int jj), .val (.ref w3), .unset, .unset] [])) _
      refine XS.iconst X42.here hx rfl (hb hby at_76) ?_
      show Steps p.tables e below (T42.setTop (mkF m 77 #[.val (.int p1), .val (.int p2), .val (.ref b1), .val (.int (3 : Int32)), .val (.int jj), .val (.ref w3), .unset, .unset] [(.int (1 : Int32))])) _
      refine XS.goto X42.here hx rfl (pc0 := 77) (pc' := 81) rfl (hb hby at_77) (by decide) (by decide) ?_
      show Steps p.tables e below (T42.setTop (mkF m 81 #[.val (.int p1), .val (.int p2), .val (.ref b1), .val (.int (3 : Int32)), .val (.int jj), .val (.ref w3), .unset, .unset] [(.int (1 : Int32))])) _
      refine XS.istore X42.here hx rfl (hb hby at_81) rfl (l' := #[.val (.int p1), .val (.int p2), .val (.ref b1), .val (.int (3 : Int32)), .val (.int jj), .val (.ref w3), .val (.int (1 : Int32)), .unset]) rfl ?_
      show Steps p.tables e below (T42.setTop (mkF m 83 #[.val (.int p1), .val (.int p2), .val (.ref b1), .val (.int (3 : Int32)), .val (.int jj), .val (.ref w3), .val (.int (1 : Int32)), .unset] [])) _
      refine XS.aload X42.here hx rfl (hb hby at_83) rfl rfl ?_
      show Steps p.tables e below (T42.setTop (mkF m 85 #[.val (.int p1), .val (.int p2), .val (.ref b1), .val (.int (3 : Int32)), .val (.int jj), .val (.ref w3), .val (.int (1 : Int32)), .unset] [(.ref w3)])) _
      refine st73.trans ?_
      show Steps p.tables e below (T73.setTop (mkF m 88 #[.val (.int p1), .val (.int p2), .val (.ref b1), .val (.int (3 : Int32)), .val (.int jj), .val (.ref w3), .val (.int (1 : Int32)), .unset] [(.int (1 : Int32))])) _
      refine XS.istore X73.here hx rfl (hb hby at_88) rfl (l' := #[.val (.int p1), .val (.int p2), .val (.ref b1), .val (.int (3 : Int32)), .val (.int jj), .val (.ref w3), .val (.int (1 : Int32)), .val (.int (1 : Int32))]) rfl ?_
      show Steps p.tables e below (T73.setTop (mkF m 90 #[.val (.int p1), .val (.int p2), .val (.ref b1), .val (.int (3 : Int32)), .val (.int jj), .val (.ref w3), .val (.int (1 : Int32)), .val (.int (1 : Int32))] [])) _
      refine XS.iload X73.here hx rfl (hb hby at_90) rfl ?_
      show Steps p.tables e below (T73.setTop (mkF m 92 #[.val (.int p1), .val (.int p2), .val (.ref b1), .val (.int (3 : Int32)), .val (.int jj), .val (.ref w3), .val (.int (1 : Int32)), .val (.int (1 : Int32))] [(.int (1 : Int32))])) _
      refine XS.iload X73.here hx rfl (hb hby at_92) rfl ?_
      show Steps p.tables e below (T73.setTop (mkF m 94 #[.val (.int p1), .val (.int p2), .val (.ref b1), .val (.int (3 : Int32)), .val (.int jj), .val (.ref w3), .val (.int (1 : Int32)), .val (.int (1 : Int32))] [(.int (1 : Int32)), (.int (1 : Int32))])) _
      refine XS.icmpYes X73.here hx rfl (pc0 := 94) (pc' := 99) rfl (hb hby at_94) rfl (teq (by decide : (1 : Int32) = (1 : Int32))).1 (by decide) (by decide) ?_
      show Steps p.tables e below (T73.setTop (mkF m 99 #[.val (.int p1), .val (.int p2), .val (.ref b1), .val (.int (3 : Int32)), .val (.int jj), .val (.ref w3), .val (.int (1 : Int32)), .val (.int (1 : Int32))] [])) _
      refine XS.iload X73.here hx rfl (hb hby at_99) rfl ?_
      show Steps p.tables e below (T73.setTop (mkF m 101 #[.val (.int p1), .val (.int p2), .val (.ref b1), .val (.int (3 : Int32)), .val (.int jj), .val (.ref w3), .val (.int (1 : Int32)), .val (.int (1 : Int32))] [(.int (1 : Int32))])) _
      refine XS.ifNo X73.here hx rfl (hb hby at_101) rfl ((if0 _ _).trans (feq (by decide : ¬ ((1 : Int32) = (0 : Int32)))).1) ?_
      show Steps p.tables e below (T73.setTop (mkF m 104 #[.val (.int p1), .val (.int p2), .val (.ref b1), .val (.int (3 : Int32)), .val (.int jj), .val (.ref w3), .val (.int (1 : Int32)), .val (.int (1 : Int32))] [])) _
      refine XS.aload X73.here hx rfl (hb hby at_104) rfl rfl ?_
      show Steps p.tables e below (T73.setTop (mkF m 106 #[.val (.int p1), .val (.int p2), .val (.ref b1), .val (.int (3 : Int32)), .val (.int jj), .val (.ref w3), .val (.int (1 : Int32)), .val (.int (1 : Int32))] [(.ref w3)])) _
      refine XS.aloadN X73.here hx rfl (hb hby at_106) rfl rfl ?_
      show Steps p.tables e below (T73.setTop (mkF m 107 #[.val (.int p1), .val (.int p2), .val (.ref b1), .val (.int (3 : Int32)), .val (.int jj), .val (.ref w3), .val (.int (1 : Int32)), .val (.int (1 : Int32))] [(.ref b1), (.ref w3)])) _
      refine XS.iload X73.here hx rfl (hb hby at_107) rfl ?_
      show Steps p.tables e below (T73.setTop (mkF m 109 #[.val (.int p1), .val (.int p2), .val (.ref b1), .val (.int (3 : Int32)), .val (.int jj), .val (.ref w3), .val (.int (1 : Int32)), .val (.int (1 : Int32))] [(.int jj), (.ref b1), (.ref w3)])) _
      refine X73.aaload hx (j := jj) (v := (.ref xx)) (by rw [eq73]; exact Ar74.1) (State.isArrayOf_alike hZ.alike Ar74.2.1) rfl Ar74.2.2 hin74 (Hs74.at hin74 hxx) (g := (mkF m 109 #[.val (.int p1), .val (.int p2), .val (.ref b1), .val (.int (3 : Int32)), .val (.int jj), .val (.ref w3), .val (.int (1 : Int32)), .val (.int (1 : Int32))] [(.int jj), (.ref b1), (.ref w3)])) rfl rfl (hb hby at_109) _ ?_
      show Steps p.tables e below (T73.setTop (mkF m 110 #[.val (.int p1), .val (.int p2), .val (.ref b1), .val (.int (3 : Int32)), .val (.int jj), .val (.ref w3), .val (.int (1 : Int32)), .val (.int (1 : Int32))] [(.ref xx), (.ref w3)])) _
      exact kt_
    obtain ⟨cq76, kq76, q76a, q76b, q76c⟩ := isOf hZ eq73 c68
    obtain ⟨_, _, ⟨T76, L76, k76, n76⟩, -, X76, Sn76, Gr76, ⟨Lc76, hQ76, l76, y76, z76⟩, st76⟩ := X73.virtualBackS hx (y := (⟨"com/example/workd/workd/model/JobState", "canMoveTo", "(Lcom/example/workd/workd/model/JobState;)Z"⟩ : MethodName)) (z := (⟨"com/example/workd/workd/model/JobState", "canMoveTo", "(Lcom/example/workd/workd/model/JobState;)Z"⟩ : MethodName)) hown (mvT hZ (hw _ (List.mem_of_getElem? (i := 28) rfl))) (mvT hZ (hw _ (List.mem_of_getElem? (i := 29) rfl))) (notFace_of_selects (args := #[]) (mvT hZ (hw _ (List.mem_of_getElem? (i := 31) rfl)))) (mvT hZ (hw _ (List.mem_of_getElem? (i := 31) rfl))) (mvT hZ (hw _ (List.mem_of_getElem? (i := 30) rfl))) (by decide) (backOfS (W := 0) (rmM3 l Z a0 hw [] w3 xx h42 n0 Zs44 c68 c75) hZ (hw _ (List.mem_of_getElem? (i := 32) rfl)) (hw _ (List.mem_of_getElem? (i := 3) rfl)) (by decide) (by decide)) q76a q76c (g := (mkF m 110 #[.val (.int p1), .val (.int p2), .val (.ref b1), .val (.int (3 : Int32)), .val (.int jj), .val (.ref w3), .val (.int (1 : Int32)), .val (.int (1 : Int32))] [(.ref xx), (.ref w3)])) rfl (by rw [hml]; rfl) (Steps.refl _) (argsL := [(.ref xx)]) (rest := []) (lenOf own_pd3 rfl) rfl (by show 2 * 0 + _ ≤ _; exact Nat.le_of_eq rfl) (hb hby at_110) (fun _ _ => ⟨rfl, eq73, (by decide : 1 + 2 ≤ _), (by decide : 7 + 20 ≤ _)⟩)
    dsimp only [Pt.U, Pt.locs, Pt.cells, Pt.slots] at X76 l76 y76 z76 st76 hQ76
    subst l76 y76 z76
    obtain ⟨rfl, N76q, K76⟩ := hQ76
    have N76 := Fr.app N73 N76q
    have hZ76 : Z.Warmed39 (s.setVm T76.vm).vm := State.Warmed39.trans hZ Sn76.1
    have hown76 : (s.setVm T76.vm).vm.findClass "com/example/workd/workd/model/JobStateIsEndStatePinLaw" = some m.cls := by rw [show (s.setVm T76.vm).vm = T76.vm from rfl, Sn76.1.alike.findClass]; exact hown
    have Zs78 : n0 ≤ T76.heap.size := Nat.le_trans Zs44 K76.1
    have O78 := O44.keep K76 all0
    obtain ⟨fs, hr, hrun, hended, hRE⟩ := Stand.leaveW (s := s) X76 Sn76 (Nat.le_refl _) (v := some (.int (1 : Int32))) (fun h => by rw [Bd.returns] at h; cases h)
    refine ⟨_, _, pre77 _ ?_, hrun, hended, _, _, rfl, ?_, hRE.1, hRE.2.1, hRE.2.2.1, hRE.2.2.2.mono (by decide) (by decide)⟩
    ·
      show Steps p.tables e below (T73.setTop (mkF m 110 #[.val (.int p1), .val (.int p2), .val (.ref b1), .val (.int (3 : Int32)), .val (.int jj), .val (.ref w3), .val (.int (1 : Int32)), .val (.int (1 : Int32))] [(.ref xx), (.ref w3)])) _
      refine st76.trans ?_
      show Steps p.tables e below (T76.setTop (mkF m 113 #[.val (.int p1), .val (.int p2), .val (.ref b1), .val (.int (3 : Int32)), .val (.int jj), .val (.ref w3), .val (.int (1 : Int32)), .val (.int (1 : Int32))] [(.int (0 : Int32))])) _
      refine XS.ifYes X76.here hx rfl (pc0 := 113) (pc' := 118) rfl (hb hby at_113) rfl ((if0 _ _).trans (teq (by decide : (0 : Int32) = (0 : Int32))).1) (by decide) (by decide) ?_
      show Steps p.tables e below (T76.setTop (mkF m 118 #[.val (.int p1), .val (.int p2), .val (.ref b1), .val (.int (3 : Int32)), .val (.int jj), .val (.ref w3), .val (.int (1 : Int32)), .val (.int (1 : Int32))] [])) _
      refine XS.iconst X76.here hx rfl (hb hby at_118) ?_
      show Steps p.tables e below (T76.setTop (mkF m 119 #[.val (.int p1), .val (.int p2), .val (.ref b1), .val (.int (3 : Int32)), .val (.int jj), .val (.ref w3), .val (.int (1 : Int32)), .val (.int (1 : Int32))] [(.int (1 : Int32))])) _
      exact retN X76 hx (t := .boolean) Bd.returns (by simp) (hb hby at_119) hr
    ·
      show Q_rm0 Z p1 p2 w0 w1 w2 w3 w4 w5 w6 h0 n0 (_) T76.heap (_)
      exact ⟨rfl, N76⟩
  ·
    rw [hi4] at pre45
    obtain ⟨cl79, Ar79, q79, Sz79, Ng79, Hs79, Gf79⟩ := id V42
    have hin79 := inb_of Sz79 (j := (4 : Int32)) ⟨by decide, by decide⟩
    have c80 := E4.ext O44.2
    have c81 := S3.ext O44.2
    have c82 := S4.ext O44.2
    have c83 := S5.ext O44.2
    have c84 := S6.ext O44.2
    obtain ⟨cq85, kq85, q85a, q85b, q85c⟩ := isOf hZ eh42 c80
    obtain ⟨_, _, ⟨T85, L85, k85, n85⟩, -, X85, ⟨Lc85, hQ85, l85, y85, z85⟩, st85⟩ := X42.virtualBack hx (y := (⟨"com/example/workd/workd/model/JobState", "isEndState", "()Z"⟩ : MethodName)) (z := (⟨"com/example/workd/workd/model/JobState", "isEndState", "()Z"⟩ : MethodName)) hown (mvT hZ (hw _ (List.mem_of_getElem? (i := 19) rfl))) (mvT hZ (hw _ (List.mem_of_getElem? (i := 20) rfl))) (notFace_of_selects (args := #[]) (mvT hZ (hw _ (List.mem_of_getElem? (i := 22) rfl)))) (mvT hZ (hw _ (List.mem_of_getElem? (i := 22) rfl))) (mvT hZ (hw _ (List.mem_of_getElem? (i := 21) rfl))) (by decide) (backOf (W := 0) (rmE l Z a0 hw [] w4 w3 w4 w5 w6 (1 : Int32) h42 n0 Zs44 c81 c82 c83 c84 (by rw [if_neg ne_4_3, if_pos rfl])) hZ (hw _ (List.mem_of_getElem? (i := 23) rfl)) (hw _ (List.mem_of_getElem? (i := 3) rfl)) (by decide) (by decide)) q85a q85c (g := (mkF m 85 #[.val (.int p1), .val (.int p2), .val (.ref b1), .val (.int (4 : Int32)), .val (.int jj), .val (.ref w4), .val (.int (1 : Int32)), .unset] [(.ref w4)])) rfl (by rw [hml]; rfl) (Steps.refl _) (argsL := []) (rest := []) (lenOf own_pd2 rfl) rfl (by show 2 * 0 + _ ≤ _; exact Nat.le_of_eq rfl) (hb hby at_85) (fun _ _ => ⟨rfl, eh42, (by decide : 1 + 0 ≤ _), (by decide : 7 + 0 ≤ _)⟩)
    dsimp only [Pt.U, Pt.locs, Pt.cells, Pt.slots] at X85 l85 y85 z85 st85 hQ85
    subst l85 y85 z85
    obtain ⟨rfl, N85q, eq85⟩ := hQ85
    have N85 := Fr.app N44 N85q
    obtain ⟨cl86, Ar86, q86, Sz86, Ng86, Hs86, Gf86⟩ := id V42
    have hin86 := inb_of Sz86 (j := jj) (by rcases hjj with rfl | rfl | rfl | rfl | rfl | rfl | rfl <;> decide)
    obtain ⟨xx, hxx⟩ : ∃ x, ([(.ref w0), (.ref w1), (.ref w2), (.ref w3), (.ref w4), (.ref w5), (.ref w6)] : List Value).getD jj.toNatClampNeg .null = .ref x := by rcases hjj with rfl | rfl | rfl | rfl | rfl | rfl | rfl <;> exact ⟨_, rfl⟩
    have c87 := F4.ext O44.2
    have pre89 : ∀ tgt, Steps p.tables e below (T85.setTop (mkF m 110 #[.val (.int p1), .val (.int p2), .val (.ref b1), .val (.int (4 : Int32)), .val (.int jj), .val (.ref w4), .val (.int (1 : Int32)), .val (.int (1 : Int32))] [(.ref xx), (.ref w4)])) tgt → Steps p.tables e below (s₁.setTop (entryFrame m #[(.int p1), (.int p2)] maxLocals)) tgt := fun tgt kt_ => by
      refine pre45 _ ?_
      show Steps p.tables e below (T42.setTop (mkF m 66 #[.val (.int p1), .val (.int p2), .val (.ref b1), .val (.int (4 : Int32)), .val (.int jj), .unset, .unset, .unset] [])) _
      refine XS.aloadN X42.here hx rfl (hb hby at_66) rfl rfl ?_
      show Steps p.tables e below (T42.setTop (mkF m 67 #[.val (.int p1), .val (.int p2), .val (.ref b1), .val (.int (4 : Int32)), .val (.int jj), .unset, .unset, .unset] [(.ref b1)])) _
      refine XS.iloadN X42.here hx rfl (hb hby at_67) rfl ?_
      show Steps p.tables e below (T42.setTop (mkF m 68 #[.val (.int p1), .val (.int p2), .val (.ref b1), .val (.int (4 : Int32)), .val (.int jj), .unset, .unset, .unset] [(.int (4 : Int32)), (.ref b1)])) _
      refine X42.aaload hx (j := (4 : Int32)) (v := (.ref w4)) (by rw [eh42]; exact Ar79.1) (State.isArrayOf_alike hZ.alike Ar79.2.1) rfl Ar79.2.2 hin79 (Hs79.at hin79 rfl) (g := (mkF m 68 #[.val (.int p1), .val (.int p2), .val (.ref b1), .val (.int (4 : Int32)), .val (.int jj), .unset, .unset, .unset] [(.int (4 : Int32)), (.ref b1)])) rfl rfl (hb hby at_68) _ ?_
      show Steps p.tables e below (T42.setTop (mkF m 69 #[.val (.int p1), .val (.int p2), .val (.ref b1), .val (.int (4 : Int32)), .val (.int jj), .unset, .unset, .unset] [(.ref w4)])) _
      refine XS.astore X42.here hx rfl (hb hby at_69) rfl rfl (l' := #[.val (.int p1), .val (.int p2), .val (.ref b1), .val (.int (4 : Int32)), .val (.int jj), .val (.ref w4), .unset, .unset]) rfl ?_
      show Steps p.tables e below (T42.setTop (mkF m 71 #[.val (.int p1), .val (.int p2), .val (.ref b1), .val (.int (4 : Int32)), .val (.int jj), .val (.ref w4), .unset, .unset] [])) _
      refine XS.iloadN X42.here hx rfl (hb hby at_71) rfl ?_
      show Steps p.tables e below (T42.setTop (mkF m 72 #[.val (.int p1), .val (.int p2), .val (.ref b1), .val (.int (4 : Int32)), .val (.int jj), .val (.ref w4), .unset, .unset] [(.int (4 : Int32))])) _
      refine XS.iconst X42.here hx rfl (hb hby at_72) ?_
      show Steps p.tables e below (T42.setTop (mkF m 73 #[.val (.int p1), .val (.int p2), .val (.ref b1), .val (.int (4 : Int32)), .val (.int jj), .val (.ref w4), .unset, .unset] [(.int (3 : Int32)), (.int (4 : Int32))])) _
      refine XS.icmpNo X42.here hx rfl (hb hby at_73) rfl (flt (by decide : ¬ ((4 : Int32) < (3 : Int32)))).1 ?_
      show Steps p.tables e below (T42.setTop (mkF m 76 #[.val (.int p1), .val (.int p2), .val (.ref b1), .val (.int (4 : Int32)), .val (.int jj), .val (.ref w4), .unset, .unset] [])) _
      refine XS.iconst X42.here hx rfl (hb hby at_76) ?_
      show Steps p.tables e below (T42.setTop (mkF m 77 #[.val (.int p1), .val (.int p2), .val (.ref b1), .val (.int (4 : Int32)), .val (.int jj), .val (.ref w4), .unset, .unset] [(.int (1 : Int32))])) _
      refine XS.goto X42.here hx rfl (pc0 := 77) (pc' := 81) rfl (hb hby at_77) (by decide) (by decide) ?_
      show Steps p.tables e below (T42.setTop (mkF m 81 #[.val (.int p1), .val (.int p2), .val (.ref b1), .val (.int (4 : Int32)), .val (.int jj), .val (.ref w4), .unset, .unset] [(.int (1 : Int32))])) _
      refine XS.istore X42.here hx rfl (hb hby at_81) rfl (l' := #[.val (.int p1), .val (.int p2), .val (.ref b1), .val (.int (4 : Int32)), .val (.int jj), .val (.ref w4), .val (.int (1 : Int32)), .unset]) rfl ?_
      show Steps p.tables e below (T42.setTop (mkF m 83 #[.val (.int p1), .val (.int p2), .val (.ref b1), .val (.int (4 : Int32)), .val (.int jj), .val (.ref w4), .val (.int (1 : Int32)), .unset] [])) _
      refine XS.aload X42.here hx rfl (hb hby at_83) rfl rfl ?_
      show Steps p.tables e below (T42.setTop (mkF m 85 #[.val (.int p1), .val (.int p2), .val (.ref b1), .val (.int (4 : Int32)), .val (.int jj), .val (.ref w4), .val (.int (1 : Int32)), .unset] [(.ref w4)])) _
      refine st85.trans ?_
      show Steps p.tables e below (T85.setTop (mkF m 88 #[.val (.int p1), .val (.int p2), .val (.ref b1), .val (.int (4 : Int32)), .val (.int jj), .val (.ref w4), .val (.int (1 : Int32)), .unset] [(.int (1 : Int32))])) _
      refine XS.istore X85.here hx rfl (hb hby at_88) rfl (l' := #[.val (.int p1), .val (.int p2), .val (.ref b1), .val (.int (4 : Int32)), .val (.int jj), .val (.ref w4), .val (.int (1 : Int32)), .val (.int (1 : Int32))]) rfl ?_
      show Steps p.tables e below (T85.setTop (mkF m 90 #[.val (.int p1), .val (.int p2), .val (.ref b1), .val (.int (4 : Int32)), .val (.int jj), .val (.ref w4), .val (.int (1 : Int32)), .val (.int (1 : Int32))] [])) _
      refine XS.iload X85.here hx rfl (hb hby at_90) rfl ?_
      show Steps p.tables e below (T85.setTop (mkF m 92 #[.val (.int p1), .val (.int p2), .val (.ref b1), .val (.int (4 : Int32)), .val (.int jj), .val (.ref w4), .val (.int (1 : Int32)), .val (.int (1 : Int32))] [(.int (1 : Int32))])) _
      refine XS.iload X85.here hx rfl (hb hby at_92) rfl ?_
      show Steps p.tables e below (T85.setTop (mkF m 94 #[.val (.int p1), .val (.int p2), .val (.ref b1), .val (.int (4 : Int32)), .val (.int jj), .val (.ref w4), .val (.int (1 : Int32)), .val (.int (1 : Int32))] [(.int (1 : Int32)), (.int (1 : Int32))])) _
      refine XS.icmpYes X85.here hx rfl (pc0 := 94) (pc' := 99) rfl (hb hby at_94) rfl (teq (by decide : (1 : Int32) = (1 : Int32))).1 (by decide) (by decide) ?_
      show Steps p.tables e below (T85.setTop (mkF m 99 #[.val (.int p1), .val (.int p2), .val (.ref b1), .val (.int (4 : Int32)), .val (.int jj), .val (.ref w4), .val (.int (1 : Int32)), .val (.int (1 : Int32))] [])) _
      refine XS.iload X85.here hx rfl (hb hby at_99) rfl ?_
      show Steps p.tables e below (T85.setTop (mkF m 101 #[.val (.int p1), .val (.int p2), .val (.ref b1), .val (.int (4 : Int32)), .val (.int jj), .val (.ref w4), .val (.int (1 : Int32)), .val (.int (1 : Int32))] [(.int (1 : Int32))])) _
      refine XS.ifNo X85.here hx rfl (hb hby at_101) rfl ((if0 _ _).trans (feq (by decide : ¬ ((1 : Int32) = (0 : Int32)))).1) ?_
      show Steps p.tables e below (T85.setTop (mkF m 104 #[.val (.int p1), .val (.int p2), .val (.ref b1), .val (.int (4 : Int32)), .val (.int jj), .val (.ref w4), .val (.int (1 : Int32)), .val (.int (1 : Int32))] [])) _
      refine XS.aload X85.here hx rfl (hb hby at_104) rfl rfl ?_
      show Steps p.tables e below (T85.setTop (mkF m 106 #[.val (.int p1), .val (.int p2), .val (.ref b1), .val (.int (4 : Int32)), .val (.int jj), .val (.ref w4), .val (.int (1 : Int32)), .val (.int (1 : Int32))] [(.ref w4)])) _
      refine XS.aloadN X85.here hx rfl (hb hby at_106) rfl rfl ?_
      show Steps p.tables e below (T85.setTop (mkF m 107 #[.val (.int p1), .val (.int p2), .val (.ref b1), .val (.int (4 : Int32)), .val (.int jj), .val (.ref w4), .val (.int (1 : Int32)), .val (.int (1 : Int32))] [(.ref b1), (.ref w4)])) _
      refine XS.iload X85.here hx rfl (hb hby at_107) rfl ?_
      show Steps p.tables e below (T85.setTop (mkF m 109 #[.val (.int p1), .val (.int p2), .val (.ref b1), .val (.int (4 : Int32)), .val (.int jj), .val (.ref w4), .val (.int (1 : Int32)), .val (.int (1 : Int32))] [(.int jj), (.ref b1), (.ref w4)])) _
      refine X85.aaload hx (j := jj) (v := (.ref xx)) (by rw [eq85]; exact Ar86.1) (State.isArrayOf_alike hZ.alike Ar86.2.1) rfl Ar86.2.2 hin86 (Hs86.at hin86 hxx) (g := (mkF m 109 #[.val (.int p1), .val (.int p2), .val (.ref b1), .val (.int (4 : Int32)), .val (.int jj), .val (.ref w4), .val (.int (1 : Int32)), .val (.int (1 : Int32))] [(.int jj), (.ref b1), (.ref w4)])) rfl rfl (hb hby at_109) _ ?_
      show Steps p.tables e below (T85.setTop (mkF m 110 #[.val (.int p1), .val (.int p2), .val (.ref b1), .val (.int (4 : Int32)), .val (.int jj), .val (.ref w4), .val (.int (1 : Int32)), .val (.int (1 : Int32))] [(.ref xx), (.ref w4)])) _
      exact kt_
    obtain ⟨cq88, kq88, q88a, q88b, q88c⟩ := isOf hZ eq85 c80
    obtain ⟨_, _, ⟨T88, L88, k88, n88⟩, -, X88, Sn88, Gr88, ⟨Lc88, hQ88, l88, y88, z88⟩, st88⟩ := X85.virtualBackS hx (y := (⟨"com/example/workd/workd/model/JobState", "canMoveTo", "(Lcom/example/workd/workd/model/JobState;)Z"⟩ : MethodName)) (z := (⟨"com/example/workd/workd/model/JobState", "canMoveTo", "(Lcom/example/workd/workd/model/JobState;)Z"⟩ : MethodName)) hown (mvT hZ (hw _ (List.mem_of_getElem? (i := 28) rfl))) (mvT hZ (hw _ (List.mem_of_getElem? (i := 29) rfl))) (notFace_of_selects (args := #[]) (mvT hZ (hw _ (List.mem_of_getElem? (i := 31) rfl)))) (mvT hZ (hw _ (List.mem_of_getElem? (i := 31) rfl))) (mvT hZ (hw _ (List.mem_of_getElem? (i := 30) rfl))) (by decide) (backOfS (W := 0) (rmM4 l Z a0 hw [] w4 xx h42 n0 Zs44 c80 c87) hZ (hw _ (List.mem_of_getElem? (i := 32) rfl)) (hw _ (List.mem_of_getElem? (i := 3) rfl)) (by decide) (by decide)) q88a q88c (g := (mkF m 110 #[.val (.int p1), .val (.int p2), .val (.ref b1), .val (.int (4 : Int32)), .val (.int jj), .val (.ref w4), .val (.int (1 : Int32)), .val (.int (1 : Int32))] [(.ref xx), (.ref w4)])) rfl (by rw [hml]; rfl) (Steps.refl _) (argsL := [(.ref xx)]) (rest := []) (lenOf own_pd3 rfl) rfl (by show 2 * 0 + _ ≤ _; exact Nat.le_of_eq rfl) (hb hby at_110) (fun _ _ => ⟨rfl, eq85, (by decide : 1 + 2 ≤ _), (by decide : 7 + 20 ≤ _)⟩)
    dsimp only [Pt.U, Pt.locs, Pt.cells, Pt.slots] at X88 l88 y88 z88 st88 hQ88
    subst l88 y88 z88
    obtain ⟨rfl, N88q, K88⟩ := hQ88
    have N88 := Fr.app N85 N88q
    have hZ88 : Z.Warmed39 (s.setVm T88.vm).vm := State.Warmed39.trans hZ Sn88.1
    have hown88 : (s.setVm T88.vm).vm.findClass "com/example/workd/workd/model/JobStateIsEndStatePinLaw" = some m.cls := by rw [show (s.setVm T88.vm).vm = T88.vm from rfl, Sn88.1.alike.findClass]; exact hown
    have Zs90 : n0 ≤ T88.heap.size := Nat.le_trans Zs44 K88.1
    have O90 := O44.keep K88 all0
    obtain ⟨fs, hr, hrun, hended, hRE⟩ := Stand.leaveW (s := s) X88 Sn88 (Nat.le_refl _) (v := some (.int (1 : Int32))) (fun h => by rw [Bd.returns] at h; cases h)
    refine ⟨_, _, pre89 _ ?_, hrun, hended, _, _, rfl, ?_, hRE.1, hRE.2.1, hRE.2.2.1, hRE.2.2.2.mono (by decide) (by decide)⟩
    ·
      show Steps p.tables e below (T85.setTop (mkF m 110 #[.val (.int p1), .val (.int p2), .val (.ref b1), .val (.int (4 : Int32)), .val (.int jj), .val (.ref w4), .val (.int (1 : Int32)), .val (.int (1 : Int32))] [(.ref xx), (.ref w4)])) _
      refine st88.trans ?_
      show Steps p.tables e below (T88.setTop (mkF m 113 #[.val (.int p1), .val (.int p2), .val (.ref b1), .val (.int (4 : Int32)), .val (.int jj), .val (.ref w4), .val (.int (1 : Int32)), .val (.int (1 : Int32))] [(.int (0 : Int32))])) _
      refine XS.ifYes X88.here hx rfl (pc0 := 113) (pc' := 118) rfl (hb hby at_113) rfl ((if0 _ _).trans (teq (by decide : (0 : Int32) = (0 : Int32))).1) (by decide) (by decide) ?_
      show Steps p.tables e below (T88.setTop (mkF m 118 #[.val (.int p1), .val (.int p2), .val (.ref b1), .val (.int (4 : Int32)), .val (.int jj), .val (.ref w4), .val (.int (1 : Int32)), .val (.int (1 : Int32))] [])) _
      refine XS.iconst X88.here hx rfl (hb hby at_118) ?_
      show Steps p.tables e below (T88.setTop (mkF m 119 #[.val (.int p1), .val (.int p2), .val (.ref b1), .val (.int (4 : Int32)), .val (.int jj), .val (.ref w4), .val (.int (1 : Int32)), .val (.int (1 : Int32))] [(.int (1 : Int32))])) _
      exact retN X88 hx (t := .boolean) Bd.returns (by simp) (hb hby at_119) hr
    ·
      show Q_rm0 Z p1 p2 w0 w1 w2 w3 w4 w5 w6 h0 n0 (_) T88.heap (_)
      exact ⟨rfl, N88⟩
  ·
    rw [hi5] at pre45
    obtain ⟨cl91, Ar91, q91, Sz91, Ng91, Hs91, Gf91⟩ := id V42
    have hin91 := inb_of Sz91 (j := (5 : Int32)) ⟨by decide, by decide⟩
    have c92 := E5.ext O44.2
    have c93 := S3.ext O44.2
    have c94 := S4.ext O44.2
    have c95 := S5.ext O44.2
    have c96 := S6.ext O44.2
    obtain ⟨cq97, kq97, q97a, q97b, q97c⟩ := isOf hZ eh42 c92
    obtain ⟨_, _, ⟨T97, L97, k97, n97⟩, -, X97, ⟨Lc97, hQ97, l97, y97, z97⟩, st97⟩ := X42.virtualBack hx (y := (⟨"com/example/workd/workd/model/JobState", "isEndState", "()Z"⟩ : MethodName)) (z := (⟨"com/example/workd/workd/model/JobState", "isEndState", "()Z"⟩ : MethodName)) hown (mvT hZ (hw _ (List.mem_of_getElem? (i := 19) rfl))) (mvT hZ (hw _ (List.mem_of_getElem? (i := 20) rfl))) (notFace_of_selects (args := #[]) (mvT hZ (hw _ (List.mem_of_getElem? (i := 22) rfl)))) (mvT hZ (hw _ (List.mem_of_getElem? (i := 22) rfl))) (mvT hZ (hw _ (List.mem_of_getElem? (i := 21) rfl))) (by decide) (backOf (W := 0) (rmE l Z a0 hw [] w5 w3 w4 w5 w6 (1 : Int32) h42 n0 Zs44 c93 c94 c95 c96 (by rw [if_neg ne_5_3, if_neg ne_5_4, if_pos rfl])) hZ (hw _ (List.mem_of_getElem? (i := 23) rfl)) (hw _ (List.mem_of_getElem? (i := 3) rfl)) (by decide) (by decide)) q97a q97c (g := (mkF m 85 #[.val (.int p1), .val (.int p2), .val (.ref b1), .val (.int (5 : Int32)), .val (.int jj), .val (.ref w5), .val (.int (1 : Int32)), .unset] [(.ref w5)])) rfl (by rw [hml]; rfl) (Steps.refl _) (argsL := []) (rest := []) (lenOf own_pd2 rfl) rfl (by show 2 * 0 + _ ≤ _; exact Nat.le_of_eq rfl) (hb hby at_85) (fun _ _ => ⟨rfl, eh42, (by decide : 1 + 0 ≤ _), (by decide : 7 + 0 ≤ _)⟩)
    dsimp only [Pt.U, Pt.locs, Pt.cells, Pt.slots] at X97 l97 y97 z97 st97 hQ97
    subst l97 y97 z97
    obtain ⟨rfl, N97q, eq97⟩ := hQ97
    have N97 := Fr.app N44 N97q
    obtain ⟨cl98, Ar98, q98, Sz98, Ng98, Hs98, Gf98⟩ := id V42
    have hin98 := inb_of Sz98 (j := jj) (by rcases hjj with rfl | rfl | rfl | rfl | rfl | rfl | rfl <;> decide)
    obtain ⟨xx, hxx⟩ : ∃ x, ([(.ref w0), (.ref w1), (.ref w2), (.ref w3), (.ref w4), (.ref w5), (.ref w6)] : List Value).getD jj.toNatClampNeg .null = .ref x := by rcases hjj with rfl | rfl | rfl | rfl | rfl | rfl | rfl <;> exact ⟨_, rfl⟩
    have c99 := F5.ext O44.2
    have pre101 : ∀ tgt, Steps p.tables e below (T97.setTop (mkF m 110 #[.val (.int p1), .val (.int p2), .val (.ref b1), .val (.int (5 : Int32)), .val (.int jj), .val (.ref w5), .val (.int (1 : Int32)), .val (.int (1 : Int32))] [(.ref xx), (.ref w5)])) tgt → Steps p.tables e below (s₁.setTop (entryFrame m #[(.int p1), (.int p2)] maxLocals)) tgt := fun tgt kt_ => by
      refine pre45 _ ?_
      show Steps p.tables e below (T42.setTop (mkF m 66 #[.val (.int p1), .val (.int p2), .val (.ref b1), .val (.int (5 : Int32)), .val (.int jj), .unset, .unset, .unset] [])) _
      refine XS.aloadN X42.here hx rfl (hb hby at_66) rfl rfl ?_
      show Steps p.tables e below (T42.setTop (mkF m 67 #[.val (.int p1), .val (.int p2), .val (.ref b1), .val (.int (5 : Int32)), .val (.int jj), .unset, .unset, .unset] [(.ref b1)])) _
      refine XS.iloadN X42.here hx rfl (hb hby at_67) rfl ?_
      show Steps p.tables e below (T42.setTop (mkF m 68 #[.val (.int p1), .val (.int p2), .val (.ref b1), .val (.int (5 : Int32)), .val (.int jj), .unset, .unset, .unset] [(.int (5 : Int32)), (.ref b1)])) _
      refine X42.aaload hx (j := (5 : Int32)) (v := (.ref w5)) (by rw [eh42]; exact Ar91.1) (State.isArrayOf_alike hZ.alike Ar91.2.1) rfl Ar91.2.2 hin91 (Hs91.at hin91 rfl) (g := (mkF m 68 #[.val (.int p1), .val (.int p2), .val (.ref b1), .val (.int (5 : Int32)), .val (.int jj), .unset, .unset, .unset] [(.int (5 : Int32)), (.ref b1)])) rfl rfl (hb hby at_68) _ ?_
      show Steps p.tables e below (T42.setTop (mkF m 69 #[.val (.int p1), .val (.int p2), .val (.ref b1), .val (.int (5 : Int32)), .val (.int jj), .unset, .unset, .unset] [(.ref w5)])) _
      refine XS.astore X42.here hx rfl (hb hby at_69) rfl rfl (l' := #[.val (.int p1), .val (.int p2), .val (.ref b1), .val (.int (5 : Int32)), .val (.int jj), .val (.ref w5), .unset, .unset]) rfl ?_
      show Steps p.tables e below (T42.setTop (mkF m 71 #[.val (.int p1), .val (.int p2), .val (.ref b1), .val (.int (5 : Int32)), .val (.int jj), .val (.ref w5), .unset, .unset] [])) _
      refine XS.iloadN X42.here hx rfl (hb hby at_71) rfl ?_
      show Steps p.tables e below (T42.setTop (mkF m 72 #[.val (.int p1), .val (.int p2), .val (.ref b1), .val (.int (5 : Int32)), .val (.int jj), .val (.ref w5), .unset, .unset] [(.int (5 : Int32))])) _
      refine XS.iconst X42.here hx rfl (hb hby at_72) ?_
      show Steps p.tables e below (T42.setTop (mkF m 73 #[.val (.int p1), .val (.int p2), .val (.ref b1), .val (.int (5 : Int32)), .val (.int jj), .val (.ref w5), .unset, .unset] [(.int (3 : Int32)), (.int (5 : Int32))])) _
      refine XS.icmpNo X42.here hx rfl (hb hby at_73) rfl (flt (by decide : ¬ ((5 : Int32) < (3 : Int32)))).1 ?_
      show Steps p.tables e below (T42.setTop (mkF m 76 #[.val (.int p1), .val (.int p2), .val (.ref b1), .val (.int (5 : Int32)), .val (.int jj), .val (.ref w5), .unset, .unset] [])) _
      refine XS.iconst X42.here hx rfl (hb hby at_76) ?_
      show Steps p.tables e below (T42.setTop (mkF m 77 #[.val (.int p1), .val (.int p2), .val (.ref b1), .val (.int (5 : Int32)), .val (.int jj), .val (.ref w5), .unset, .unset] [(.int (1 : Int32))])) _
      refine XS.goto X42.here hx rfl (pc0 := 77) (pc' := 81) rfl (hb hby at_77) (by decide) (by decide) ?_
      show Steps p.tables e below (T42.setTop (mkF m 81 #[.val (.int p1), .val (.int p2), .val (.ref b1), .val (.int (5 : Int32)), .val (.int jj), .val (.ref w5), .unset, .unset] [(.int (1 : Int32))])) _
      refine XS.istore X42.here hx rfl (hb hby at_81) rfl (l' := #[.val (.int p1), .val (.int p2), .val (.ref b1), .val (.int (5 : Int32)), .val (.int jj), .val (.ref w5), .val (.int (1 : Int32)), .unset]) rfl ?_
      show Steps p.tables e below (T42.setTop (mkF m 83 #[.val (.int p1), .val (.int p2), .val (.ref b1), .val (.int (5 : Int32)), .val (.int jj), .val (.ref w5), .val (.int (1 : Int32)), .unset] [])) _
      refine XS.aload X42.here hx rfl (hb hby at_83) rfl rfl ?_
      show Steps p.tables e below (T42.setTop (mkF m 85 #[.val (.int p1), .val (.int p2), .val (.ref b1), .val (.int (5 : Int32)), .val (.int jj), .val (.ref w5), .val (.int (1 : Int32)), .unset] [(.ref w5)])) _
      refine st97.trans ?_
      show Steps p.tables e below (T97.setTop (mkF m 88 #[.val (.int p1), .val (.int p2), .val (.ref b1), .val (.int (5 : Int32)), .val (.int jj), .val (.ref w5), .val (.int (1 : Int32)), .unset] [(.int (1 : Int32))])) _
      refine XS.istore X97.here hx rfl (hb hby at_88) rfl (l' := #[.val (.int p1), .val (.int p2), .val (.ref b1), .val (.int (5 : Int32)), .val (.int jj), .val (.ref w5), .val (.int (1 : Int32)), .val (.int (1 : Int32))]) rfl ?_
      show Steps p.tables e below (T97.setTop (mkF m 90 #[.val (.int p1), .val (.int p2), .val (.ref b1), .val (.int (5 : Int32)), .val (.int jj), .val (.ref w5), .val (.int (1 : Int32)), .val (.int (1 : Int32))] [])) _
      refine XS.iload X97.here hx rfl (hb hby at_90) rfl ?_
      show Steps p.tables e below (T97.setTop (mkF m 92 #[.val (.int p1), .val (.int p2), .val (.ref b1), .val (.int (5 : Int32)), .val (.int jj), .val (.ref w5), .val (.int (1 : Int32)), .val (.int (1 : Int32))] [(.int (1 : Int32))])) _
      refine XS.iload X97.here hx rfl (hb hby at_92) rfl ?_
      show Steps p.tables e below (T97.setTop (mkF m 94 #[.val (.int p1), .val (.int p2), .val (.ref b1), .val (.int (5 : Int32)), .val (.int jj), .val (.ref w5), .val (.int (1 : Int32)), .val (.int (1 : Int32))] [(.int (1 : Int32)), (.int (1 : Int32))])) _
      refine XS.icmpYes X97.here hx rfl (pc0 := 94) (pc' := 99) rfl (hb hby at_94) rfl (teq (by decide : (1 : Int32) = (1 : Int32))).1 (by decide) (by decide) ?_
      show Steps p.tables e below (T97.setTop (mkF m 99 #[.val (.int p1), .val (.int p2), .val (.ref b1), .val (.int (5 : Int32)), .val (.int jj), .val (.ref w5), .val (.int (1 : Int32)), .val (.int (1 : Int32))] [])) _
      refine XS.iload X97.here hx rfl (hb hby at_99) rfl ?_
      show Steps p.tables e below (T97.setTop (mkF m 101 #[.val (.int p1), .val (.int p2), .val (.ref b1), .val (.int (5 : Int32)), .val (.int jj), .val (.ref w5), .val (.int (1 : Int32)), .val (.int (1 : Int32))] [(.int (1 : Int32))])) _
      refine XS.ifNo X97.here hx rfl (hb hby at_101) rfl ((if0 _ _).trans (feq (by decide : ¬ ((1 : Int32) = (0 : Int32)))).1) ?_
      show Steps p.tables e below (T97.setTop (mkF m 104 #[.val (.int p1), .val (.int p2), .val (.ref b1), .val (.int (5 : Int32)), .val (.int jj), .val (.ref w5), .val (.int (1 : Int32)), .val (.int (1 : Int32))] [])) _
      refine XS.aload X97.here hx rfl (hb hby at_104) rfl rfl ?_
      show Steps p.tables e below (T97.setTop (mkF m 106 #[.val (.int p1), .val (.int p2), .val (.ref b1), .val (.int (5 : Int32)), .val (.int jj), .val (.ref w5), .val (.int (1 : Int32)), .val (.int (1 : Int32))] [(.ref w5)])) _
      refine XS.aloadN X97.here hx rfl (hb hby at_106) rfl rfl ?_
      show Steps p.tables e below (T97.setTop (mkF m 107 #[.val (.int p1), .val (.int p2), .val (.ref b1), .val (.int (5 : Int32)), .val (.int jj), .val (.ref w5), .val (.int (1 : Int32)), .val (.int (1 : Int32))] [(.ref b1), (.ref w5)])) _
      refine XS.iload X97.here hx rfl (hb hby at_107) rfl ?_
      show Steps p.tables e below (T97.setTop (mkF m 109 #[.val (.int p1), .val (.int p2), .val (.ref b1), .val (.int (5 : Int32)), .val (.int jj), .val (.ref w5), .val (.int (1 : Int32)), .val (.int (1 : Int32))] [(.int jj), (.ref b1), (.ref w5)])) _
      refine X97.aaload hx (j := jj) (v := (.ref xx)) (by rw [eq97]; exact Ar98.1) (State.isArrayOf_alike hZ.alike Ar98.2.1) rfl Ar98.2.2 hin98 (Hs98.at hin98 hxx) (g := (mkF m 109 #[.val (.int p1), .val (.int p2), .val (.ref b1), .val (.int (5 : Int32)), .val (.int jj), .val (.ref w5), .val (.int (1 : Int32)), .val (.int (1 : Int32))] [(.int jj), (.ref b1), (.ref w5)])) rfl rfl (hb hby at_109) _ ?_
      show Steps p.tables e below (T97.setTop (mkF m 110 #[.val (.int p1), .val (.int p2), .val (.ref b1), .val (.int (5 : Int32)), .val (.int jj), .val (.ref w5), .val (.int (1 : Int32)), .val (.int (1 : Int32))] [(.ref xx), (.ref w5)])) _
      exact kt_
    obtain ⟨cq100, kq100, q100a, q100b, q100c⟩ := isOf hZ eq97 c92
    obtain ⟨_, _, ⟨T100, L100, k100, n100⟩, -, X100, Sn100, Gr100, ⟨Lc100, hQ100, l100, y100, z100⟩, st100⟩ := X97.virtualBackS hx (y := (⟨"com/example/workd/workd/model/JobState", "canMoveTo", "(Lcom/example/workd/workd/model/JobState;)Z"⟩ : MethodName)) (z := (⟨"com/example/workd/workd/model/JobState", "canMoveTo", "(Lcom/example/workd/workd/model/JobState;)Z"⟩ : MethodName)) hown (mvT hZ (hw _ (List.mem_of_getElem? (i := 28) rfl))) (mvT hZ (hw _ (List.mem_of_getElem? (i := 29) rfl))) (notFace_of_selects (args := #[]) (mvT hZ (hw _ (List.mem_of_getElem? (i := 31) rfl)))) (mvT hZ (hw _ (List.mem_of_getElem? (i := 31) rfl))) (mvT hZ (hw _ (List.mem_of_getElem? (i := 30) rfl))) (by decide) (backOfS (W := 0) (rmM5 l Z a0 hw [] w5 xx h42 n0 Zs44 c92 c99) hZ (hw _ (List.mem_of_getElem? (i := 32) rfl)) (hw _ (List.mem_of_getElem? (i := 3) rfl)) (by decide) (by decide)) q100a q100c (g := (mkF m 110 #[.val (.int p1), .val (.int p2), .val (.ref b1), .val (.int (5 : Int32)), .val (.int jj), .val (.ref w5), .val (.int (1 : Int32)), .val (.int (1 : Int32))] [(.ref xx), (.ref w5)])) rfl (by rw [hml]; rfl) (Steps.refl _) (argsL := [(.ref xx)]) (rest := []) (lenOf own_pd3 rfl) rfl (by show 2 * 0 + _ ≤ _; exact Nat.le_of_eq rfl) (hb hby at_110) (fun _ _ => ⟨rfl, eq97, (by decide : 1 + 2 ≤ _), (by decide : 7 + 20 ≤ _)⟩)
    dsimp only [Pt.U, Pt.locs, Pt.cells, Pt.slots] at X100 l100 y100 z100 st100 hQ100
    subst l100 y100 z100
    obtain ⟨rfl, N100q, K100⟩ := hQ100
    have N100 := Fr.app N97 N100q
    have hZ100 : Z.Warmed39 (s.setVm T100.vm).vm := State.Warmed39.trans hZ Sn100.1
    have hown100 : (s.setVm T100.vm).vm.findClass "com/example/workd/workd/model/JobStateIsEndStatePinLaw" = some m.cls := by rw [show (s.setVm T100.vm).vm = T100.vm from rfl, Sn100.1.alike.findClass]; exact hown
    have Zs102 : n0 ≤ T100.heap.size := Nat.le_trans Zs44 K100.1
    have O102 := O44.keep K100 all0
    obtain ⟨fs, hr, hrun, hended, hRE⟩ := Stand.leaveW (s := s) X100 Sn100 (Nat.le_refl _) (v := some (.int (1 : Int32))) (fun h => by rw [Bd.returns] at h; cases h)
    refine ⟨_, _, pre101 _ ?_, hrun, hended, _, _, rfl, ?_, hRE.1, hRE.2.1, hRE.2.2.1, hRE.2.2.2.mono (by decide) (by decide)⟩
    ·
      show Steps p.tables e below (T97.setTop (mkF m 110 #[.val (.int p1), .val (.int p2), .val (.ref b1), .val (.int (5 : Int32)), .val (.int jj), .val (.ref w5), .val (.int (1 : Int32)), .val (.int (1 : Int32))] [(.ref xx), (.ref w5)])) _
      refine st100.trans ?_
      show Steps p.tables e below (T100.setTop (mkF m 113 #[.val (.int p1), .val (.int p2), .val (.ref b1), .val (.int (5 : Int32)), .val (.int jj), .val (.ref w5), .val (.int (1 : Int32)), .val (.int (1 : Int32))] [(.int (0 : Int32))])) _
      refine XS.ifYes X100.here hx rfl (pc0 := 113) (pc' := 118) rfl (hb hby at_113) rfl ((if0 _ _).trans (teq (by decide : (0 : Int32) = (0 : Int32))).1) (by decide) (by decide) ?_
      show Steps p.tables e below (T100.setTop (mkF m 118 #[.val (.int p1), .val (.int p2), .val (.ref b1), .val (.int (5 : Int32)), .val (.int jj), .val (.ref w5), .val (.int (1 : Int32)), .val (.int (1 : Int32))] [])) _
      refine XS.iconst X100.here hx rfl (hb hby at_118) ?_
      show Steps p.tables e below (T100.setTop (mkF m 119 #[.val (.int p1), .val (.int p2), .val (.ref b1), .val (.int (5 : Int32)), .val (.int jj), .val (.ref w5), .val (.int (1 : Int32)), .val (.int (1 : Int32))] [(.int (1 : Int32))])) _
      exact retN X100 hx (t := .boolean) Bd.returns (by simp) (hb hby at_119) hr
    ·
      show Q_rm0 Z p1 p2 w0 w1 w2 w3 w4 w5 w6 h0 n0 (_) T100.heap (_)
      exact ⟨rfl, N100⟩
  ·
    rw [hi6] at pre45
    obtain ⟨cl103, Ar103, q103, Sz103, Ng103, Hs103, Gf103⟩ := id V42
    have hin103 := inb_of Sz103 (j := (6 : Int32)) ⟨by decide, by decide⟩
    have c104 := E6.ext O44.2
    have c105 := S3.ext O44.2
    have c106 := S4.ext O44.2
    have c107 := S5.ext O44.2
    have c108 := S6.ext O44.2
    obtain ⟨cq109, kq109, q109a, q109b, q109c⟩ := isOf hZ eh42 c104
    obtain ⟨_, _, ⟨T109, L109, k109, n109⟩, -, X109, ⟨Lc109, hQ109, l109, y109, z109⟩, st109⟩ := X42.virtualBack hx (y := (⟨"com/example/workd/workd/model/JobState", "isEndState", "()Z"⟩ : MethodName)) (z := (⟨"com/example/workd/workd/model/JobState", "isEndState", "()Z"⟩ : MethodName)) hown (mvT hZ (hw _ (List.mem_of_getElem? (i := 19) rfl))) (mvT hZ (hw _ (List.mem_of_getElem? (i := 20) rfl))) (notFace_of_selects (args := #[]) (mvT hZ (hw _ (List.mem_of_getElem? (i := 22) rfl)))) (mvT hZ (hw _ (List.mem_of_getElem? (i := 22) rfl))) (mvT hZ (hw _ (List.mem_of_getElem? (i := 21) rfl))) (by decide) (backOf (W := 0) (rmE l Z a0 hw [] w6 w3 w4 w5 w6 (1 : Int32) h42 n0 Zs44 c105 c106 c107 c108 (by rw [if_neg ne_6_3, if_neg ne_6_4, if_neg ne_6_5, if_pos rfl])) hZ (hw _ (List.mem_of_getElem? (i := 23) rfl)) (hw _ (List.mem_of_getElem? (i := 3) rfl)) (by decide) (by decide)) q109a q109c (g := (mkF m 85 #[.val (.int p1), .val (.int p2), .val (.ref b1), .val (.int (6 : Int32)), .val (.int jj), .val (.ref w6), .val (.int (1 : Int32)), .unset] [(.ref w6)])) rfl (by rw [hml]; rfl) (Steps.refl _) (argsL := []) (rest := []) (lenOf own_pd2 rfl) rfl (by show 2 * 0 + _ ≤ _; exact Nat.le_of_eq rfl) (hb hby at_85) (fun _ _ => ⟨rfl, eh42, (by decide : 1 + 0 ≤ _), (by decide : 7 + 0 ≤ _)⟩)
    dsimp only [Pt.U, Pt.locs, Pt.cells, Pt.slots] at X109 l109 y109 z109 st109 hQ109
    subst l109 y109 z109
    obtain ⟨rfl, N109q, eq109⟩ := hQ109
    have N109 := Fr.app N44 N109q
    obtain ⟨cl110, Ar110, q110, Sz110, Ng110, Hs110, Gf110⟩ := id V42
    have hin110 := inb_of Sz110 (j := jj) (by rcases hjj with rfl | rfl | rfl | rfl | rfl | rfl | rfl <;> decide)
    obtain ⟨xx, hxx⟩ : ∃ x, ([(.ref w0), (.ref w1), (.ref w2), (.ref w3), (.ref w4), (.ref w5), (.ref w6)] : List Value).getD jj.toNatClampNeg .null = .ref x := by rcases hjj with rfl | rfl | rfl | rfl | rfl | rfl | rfl <;> exact ⟨_, rfl⟩
    have c111 := F6.ext O44.2
    have pre113 : ∀ tgt, Steps p.tables e below (T109.setTop (mkF m 110 #[.val (.int p1), .val (.int p2), .val (.ref b1), .val (.int (6 : Int32)), .val (.int jj), .val (.ref w6), .val (.int (1 : Int32)), .val (.int (1 : Int32))] [(.ref xx), (.ref w6)])) tgt → Steps p.tables e below (s₁.setTop (entryFrame m #[(.int p1), (.int p2)] maxLocals)) tgt := fun tgt kt_ => by
      refine pre45 _ ?_
      show Steps p.tables e below (T42.setTop (mkF m 66 #[.val (.int p1), .val (.int p2), .val (.ref b1), .val (.int (6 : Int32)), .val (.int jj), .unset, .unset, .unset] [])) _
      refine XS.aloadN X42.here hx rfl (hb hby at_66) rfl rfl ?_
      show Steps p.tables e below (T42.setTop (mkF m 67 #[.val (.int p1), .val (.int p2), .val (.ref b1), .val (.int (6 : Int32)), .val (.int jj), .unset, .unset, .unset] [(.ref b1)])) _
      refine XS.iloadN X42.here hx rfl (hb hby at_67) rfl ?_
      show Steps p.tables e below (T42.setTop (mkF m 68 #[.val (.int p1), .val (.int p2), .val (.ref b1), .val (.int (6 : Int32)), .val (.int jj), .unset, .unset, .unset] [(.int (6 : Int32)), (.ref b1)])) _
      refine X42.aaload hx (j := (6 : Int32)) (v := (.ref w6)) (by rw [eh42]; exact Ar103.1) (State.isArrayOf_alike hZ.alike Ar103.2.1) rfl Ar103.2.2 hin103 (Hs103.at hin103 rfl) (g := (mkF m 68 #[.val (.int p1), .val (.int p2), .val (.ref b1), .val (.int (6 : Int32)), .val (.int jj), .unset, .unset, .unset] [(.int (6 : Int32)), (.ref b1)])) rfl rfl (hb hby at_68) _ ?_
      show Steps p.tables e below (T42.setTop (mkF m 69 #[.val (.int p1), .val (.int p2), .val (.ref b1), .val (.int (6 : Int32)), .val (.int jj), .unset, .unset, .unset] [(.ref w6)])) _
      refine XS.astore X42.here hx rfl (hb hby at_69) rfl rfl (l' := #[.val (.int p1), .val (.int p2), .val (.ref b1), .val (.int (6 : Int32)), .val (.int jj), .val (.ref w6), .unset, .unset]) rfl ?_
      show Steps p.tables e below (T42.setTop (mkF m 71 #[.val (.int p1), .val (.int p2), .val (.ref b1), .val (.int (6 : Int32)), .val (.int jj), .val (.ref w6), .unset, .unset] [])) _
      refine XS.iloadN X42.here hx rfl (hb hby at_71) rfl ?_
      show Steps p.tables e below (T42.setTop (mkF m 72 #[.val (.int p1), .val (.int p2), .val (.ref b1), .val (.int (6 : Int32)), .val (.int jj), .val (.ref w6), .unset, .unset] [(.int (6 : Int32))])) _
      refine XS.iconst X42.here hx rfl (hb hby at_72) ?_
      show Steps p.tables e below (T42.setTop (mkF m 73 #[.val (.int p1), .val (.int p2), .val (.ref b1), .val (.int (6 : Int32)), .val (.int jj), .val (.ref w6), .unset, .unset] [(.int (3 : Int32)), (.int (6 : Int32))])) _
      refine XS.icmpNo X42.here hx rfl (hb hby at_73) rfl (flt (by decide : ¬ ((6 : Int32) < (3 : Int32)))).1 ?_
      show Steps p.tables e below (T42.setTop (mkF m 76 #[.val (.int p1), .val (.int p2), .val (.ref b1), .val (.int (6 : Int32)), .val (.int jj), .val (.ref w6), .unset, .unset] [])) _
      refine XS.iconst X42.here hx rfl (hb hby at_76) ?_
      show Steps p.tables e below (T42.setTop (mkF m 77 #[.val (.int p1), .val (.int p2), .val (.ref b1), .val (.int (6 : Int32)), .val (.int jj), .val (.ref w6), .unset, .unset] [(.int (1 : Int32))])) _
      refine XS.goto X42.here hx rfl (pc0 := 77) (pc' := 81) rfl (hb hby at_77) (by decide) (by decide) ?_
      show Steps p.tables e below (T42.setTop (mkF m 81 #[.val (.int p1), .val (.int p2), .val (.ref b1), .val (.int (6 : Int32)), .val (.int jj), .val (.ref w6), .unset, .unset] [(.int (1 : Int32))])) _
      refine XS.istore X42.here hx rfl (hb hby at_81) rfl (l' := #[.val (.int p1), .val (.int p2), .val (.ref b1), .val (.int (6 : Int32)), .val (.int jj), .val (.ref w6), .val (.int (1 : Int32)), .unset]) rfl ?_
      show Steps p.tables e below (T42.setTop (mkF m 83 #[.val (.int p1), .val (.int p2), .val (.ref b1), .val (.int (6 : Int32)), .val (.int jj), .val (.ref w6), .val (.int (1 : Int32)), .unset] [])) _
      refine XS.aload X42.here hx rfl (hb hby at_83) rfl rfl ?_
      show Steps p.tables e below (T42.setTop (mkF m 85 #[.val (.int p1), .val (.int p2), .val (.ref b1), .val (.int (6 : Int32)), .val (.int jj), .val (.ref w6), .val (.int (1 : Int32)), .unset] [(.ref w6)])) _
      refine st109.trans ?_
      show Steps p.tables e below (T109.setTop (mkF m 88 #[.val (.int p1), .val (.int p2), .val (.ref b1), .val (.int (6 : Int32)), .val (.int jj), .val (.ref w6), .val (.int (1 : Int32)), .unset] [(.int (1 : Int32))])) _
      refine XS.istore X109.here hx rfl (hb hby at_88) rfl (l' := #[.val (.int p1), .val (.int p2), .val (.ref b1), .val (.int (6 : Int32)), .val (.int jj), .val (.ref w6), .val (.int (1 : Int32)), .val (.int (1 : Int32))]) rfl ?_
      show Steps p.tables e below (T109.setTop (mkF m 90 #[.val (.int p1), .val (.int p2), .val (.ref b1), .val (.int (6 : Int32)), .val (.int jj), .val (.ref w6), .val (.int (1 : Int32)), .val (.int (1 : Int32))] [])) _
      refine XS.iload X109.here hx rfl (hb hby at_90) rfl ?_
      show Steps p.tables e below (T109.setTop (mkF m 92 #[.val (.int p1), .val (.int p2), .val (.ref b1), .val (.int (6 : Int32)), .val (.int jj), .val (.ref w6), .val (.int (1 : Int32)), .val (.int (1 : Int32))] [(.int (1 : Int32))])) _
      refine XS.iload X109.here hx rfl (hb hby at_92) rfl ?_
      show Steps p.tables e below (T109.setTop (mkF m 94 #[.val (.int p1), .val (.int p2), .val (.ref b1), .val (.int (6 : Int32)), .val (.int jj), .val (.ref w6), .val (.int (1 : Int32)), .val (.int (1 : Int32))] [(.int (1 : Int32)), (.int (1 : Int32))])) _
      refine XS.icmpYes X109.here hx rfl (pc0 := 94) (pc' := 99) rfl (hb hby at_94) rfl (teq (by decide : (1 : Int32) = (1 : Int32))).1 (by decide) (by decide) ?_
      show Steps p.tables e below (T109.setTop (mkF m 99 #[.val (.int p1), .val (.int p2), .val (.ref b1), .val (.int (6 : Int32)), .val (.int jj), .val (.ref w6), .val (.int (1 : Int32)), .val (.int (1 : Int32))] [])) _
      refine XS.iload X109.here hx rfl (hb hby at_99) rfl ?_
      show Steps p.tables e below (T109.setTop (mkF m 101 #[.val (.int p1), .val (.int p2), .val (.ref b1), .val (.int (6 : Int32)), .val (.int jj), .val (.ref w6), .val (.int (1 : Int32)), .val (.int (1 : Int32))] [(.int (1 : Int32))])) _
      refine XS.ifNo X109.here hx rfl (hb hby at_101) rfl ((if0 _ _).trans (feq (by decide : ¬ ((1 : Int32) = (0 : Int32)))).1) ?_
      show Steps p.tables e below (T109.setTop (mkF m 104 #[.val (.int p1), .val (.int p2), .val (.ref b1), .val (.int (6 : Int32)), .val (.int jj), .val (.ref w6), .val (.int (1 : Int32)), .val (.int (1 : Int32))] [])) _
      refine XS.aload X109.here hx rfl (hb hby at_104) rfl rfl ?_
      show Steps p.tables e below (T109.setTop (mkF m 106 #[.val (.int p1), .val (.int p2), .val (.ref b1), .val (.int (6 : Int32)), .val (.int jj), .val (.ref w6), .val (.int (1 : Int32)), .val (.int (1 : Int32))] [(.ref w6)])) _
      refine XS.aloadN X109.here hx rfl (hb hby at_106) rfl rfl ?_
      show Steps p.tables e below (T109.setTop (mkF m 107 #[.val (.int p1), .val (.int p2), .val (.ref b1), .val (.int (6 : Int32)), .val (.int jj), .val (.ref w6), .val (.int (1 : Int32)), .val (.int (1 : Int32))] [(.ref b1), (.ref w6)])) _
      refine XS.iload X109.here hx rfl (hb hby at_107) rfl ?_
      show Steps p.tables e below (T109.setTop (mkF m 109 #[.val (.int p1), .val (.int p2), .val (.ref b1), .val (.int (6 : Int32)), .val (.int jj), .val (.ref w6), .val (.int (1 : Int32)), .val (.int (1 : Int32))] [(.int jj), (.ref b1), (.ref w6)])) _
      refine X109.aaload hx (j := jj) (v := (.ref xx)) (by rw [eq109]; exact Ar110.1) (State.isArrayOf_alike hZ.alike Ar110.2.1) rfl Ar110.2.2 hin110 (Hs110.at hin110 hxx) (g := (mkF m 109 #[.val (.int p1), .val (.int p2), .val (.ref b1), .val (.int (6 : Int32)), .val (.int jj), .val (.ref w6), .val (.int (1 : Int32)), .val (.int (1 : Int32))] [(.int jj), (.ref b1), (.ref w6)])) rfl rfl (hb hby at_109) _ ?_
      show Steps p.tables e below (T109.setTop (mkF m 110 #[.val (.int p1), .val (.int p2), .val (.ref b1), .val (.int (6 : Int32)), .val (.int jj), .val (.ref w6), .val (.int (1 : Int32)), .val (.int (1 : Int32))] [(.ref xx), (.ref w6)])) _
      exact kt_
    obtain ⟨cq112, kq112, q112a, q112b, q112c⟩ := isOf hZ eq109 c104
    obtain ⟨_, _, ⟨T112, L112, k112, n112⟩, -, X112, Sn112, Gr112, ⟨Lc112, hQ112, l112, y112, z112⟩, st112⟩ := X109.virtualBackS hx (y := (⟨"com/example/workd/workd/model/JobState", "canMoveTo", "(Lcom/example/workd/workd/model/JobState;)Z"⟩ : MethodName)) (z := (⟨"com/example/workd/workd/model/JobState", "canMoveTo", "(Lcom/example/workd/workd/model/JobState;)Z"⟩ : MethodName)) hown (mvT hZ (hw _ (List.mem_of_getElem? (i := 28) rfl))) (mvT hZ (hw _ (List.mem_of_getElem? (i := 29) rfl))) (notFace_of_selects (args := #[]) (mvT hZ (hw _ (List.mem_of_getElem? (i := 31) rfl)))) (mvT hZ (hw _ (List.mem_of_getElem? (i := 31) rfl))) (mvT hZ (hw _ (List.mem_of_getElem? (i := 30) rfl))) (by decide) (backOfS (W := 0) (rmM6 l Z a0 hw [] w6 xx h42 n0 Zs44 c104 c111) hZ (hw _ (List.mem_of_getElem? (i := 32) rfl)) (hw _ (List.mem_of_getElem? (i := 3) rfl)) (by decide) (by decide)) q112a q112c (g := (mkF m 110 #[.val (.int p1), .val (.int p2), .val (.ref b1), .val (.int (6 : Int32)), .val (.int jj), .val (.ref w6), .val (.int (1 : Int32)), .val (.int (1 : Int32))] [(.ref xx), (.ref w6)])) rfl (by rw [hml]; rfl) (Steps.refl _) (argsL := [(.ref xx)]) (rest := []) (lenOf own_pd3 rfl) rfl (by show 2 * 0 + _ ≤ _; exact Nat.le_of_eq rfl) (hb hby at_110) (fun _ _ => ⟨rfl, eq109, (by decide : 1 + 2 ≤ _), (by decide : 7 + 20 ≤ _)⟩)
    dsimp only [Pt.U, Pt.locs, Pt.cells, Pt.slots] at X112 l112 y112 z112 st112 hQ112
    subst l112 y112 z112
    obtain ⟨rfl, N112q, K112⟩ := hQ112
    have N112 := Fr.app N109 N112q
    have hZ112 : Z.Warmed39 (s.setVm T112.vm).vm := State.Warmed39.trans hZ Sn112.1
    have hown112 : (s.setVm T112.vm).vm.findClass "com/example/workd/workd/model/JobStateIsEndStatePinLaw" = some m.cls := by rw [show (s.setVm T112.vm).vm = T112.vm from rfl, Sn112.1.alike.findClass]; exact hown
    have Zs114 : n0 ≤ T112.heap.size := Nat.le_trans Zs44 K112.1
    have O114 := O44.keep K112 all0
    obtain ⟨fs, hr, hrun, hended, hRE⟩ := Stand.leaveW (s := s) X112 Sn112 (Nat.le_refl _) (v := some (.int (1 : Int32))) (fun h => by rw [Bd.returns] at h; cases h)
    refine ⟨_, _, pre113 _ ?_, hrun, hended, _, _, rfl, ?_, hRE.1, hRE.2.1, hRE.2.2.1, hRE.2.2.2.mono (by decide) (by decide)⟩
    ·
      show Steps p.tables e below (T109.setTop (mkF m 110 #[.val (.int p1), .val (.int p2), .val (.ref b1), .val (.int (6 : Int32)), .val (.int jj), .val (.ref w6), .val (.int (1 : Int32)), .val (.int (1 : Int32))] [(.ref xx), (.ref w6)])) _
      refine st112.trans ?_
      show Steps p.tables e below (T112.setTop (mkF m 113 #[.val (.int p1), .val (.int p2), .val (.ref b1), .val (.int (6 : Int32)), .val (.int jj), .val (.ref w6), .val (.int (1 : Int32)), .val (.int (1 : Int32))] [(.int (0 : Int32))])) _
      refine XS.ifYes X112.here hx rfl (pc0 := 113) (pc' := 118) rfl (hb hby at_113) rfl ((if0 _ _).trans (teq (by decide : (0 : Int32) = (0 : Int32))).1) (by decide) (by decide) ?_
      show Steps p.tables e below (T112.setTop (mkF m 118 #[.val (.int p1), .val (.int p2), .val (.ref b1), .val (.int (6 : Int32)), .val (.int jj), .val (.ref w6), .val (.int (1 : Int32)), .val (.int (1 : Int32))] [])) _
      refine XS.iconst X112.here hx rfl (hb hby at_118) ?_
      show Steps p.tables e below (T112.setTop (mkF m 119 #[.val (.int p1), .val (.int p2), .val (.ref b1), .val (.int (6 : Int32)), .val (.int jj), .val (.ref w6), .val (.int (1 : Int32)), .val (.int (1 : Int32))] [(.int (1 : Int32))])) _
      exact retN X112 hx (t := .boolean) Bd.returns (by simp) (hb hby at_119) hr
    ·
      show Q_rm0 Z p1 p2 w0 w1 w2 w3 w4 w5 w6 h0 n0 (_) T112.heap (_)
      exact ⟨rfl, N112⟩
set_option maxRecDepth 65536 in
set_option maxHeartbeats 40000000 in
theorem comes_1 {Post : Tables → Env → Array Value → State → Outcome → State → Prop} (hpost : ∀ tb e args s v u, (limb_1_1.after args s (.returned v) u = true ∧ limb_1_2.after args s (.returned v) u = true ∧ True) → ReturnedEndW s (.returned v) u (Jvm.fieldLocs frame_1_writes args s ++ Jvm.arrayLocs frame_1_arrays args s ++ Jvm.staticLocs frame_1_statics s) 16 1152 → Post tb e args s (.returned v) u) :
    ArmFor flags0 classFile x code maxLocals ret World_1 tables_1 room_1 Calls_1 rest_1 Pre_1 Post := by
  intro l hfl _ _ p e ha hc hk s m args below hf hA hF happ hP
  obtain ⟨hcalls, hrest, hpre⟩ := hP
  obtain ⟨-, -, -, hnamed, -, -, -, hat⟩ := (Spec.applies_iff hf).mp happ
  obtain ⟨hg, hn⟩ := and_e (Cond.before_iff.mp (show (Jvm.Cond.and given_1 narrow_1).before args s = true from hpre))
  obtain ⟨g1, g2⟩ := and_e hg
  obtain ⟨g3, g4⟩ := and_e g2
  obtain ⟨w0, w1, rfl⟩ : ∃ w0 w1 : Value, args = #[w0, w1] := by
    have hs : args.size = 2 := by simpa [Cond.value, given_1] using g1
    obtain ⟨L⟩ := args
    match L, hs with
    | [w0, w1], _ => exact ⟨w0, w1, rfl⟩
  have hw := fun d (hd : d ∈ tables_1) => atoms_spec (ws := Jvm.Cond.code x code maxLocals ret :: tables_1) hat d (List.mem_cons_of_mem _ hd)
  have hfit : Fit s := fun {y c} hc i hi => by
    obtain ⟨ha, rfl⟩ := Array.getElem?_eq_some_iff.mp hc
    have q := List.all_eq_true.mp ((Array.all_eq_true_iff_forall_mem.mp hF) _ (Array.getElem_mem ha)) i (List.mem_range.mpr hi)
    simpa [Array.getElem?_eq_getElem hi] using q
  obtain ⟨i0, ei0⟩ := is_v g3
  obtain rfl : w0 = (.int i0) := Option.some.inj ei0
  obtain ⟨i1, ei1⟩ := is_v g4
  obtain rfl : w1 = (.int i1) := Option.some.inj ei1
  obtain ⟨g5, g6⟩ := and_e hn
  obtain ⟨g7, g8⟩ := and_e g6
  obtain ⟨g9, g10⟩ := and_e g8
  obtain ⟨g11, g12⟩ := and_e g10
  obtain ⟨g13, g14⟩ := and_e g12
  obtain ⟨g15, g16⟩ := and_e g14
  obtain ⟨g17, g18⟩ := and_e g16
  obtain ⟨g19, g20⟩ := and_e g18
  obtain ⟨g21, g22⟩ := and_e g20
  obtain ⟨g23, g24⟩ := and_e g22
  obtain ⟨g25, g26⟩ := and_e g24
  obtain ⟨g27, g28⟩ := and_e g26
  obtain ⟨g29, g30⟩ := and_e g28
  obtain ⟨w_QUEUED, ev_QUEUED⟩ := exa_v g5
  have S_QUEUED := Sta.start ev_QUEUED (Or.inr ⟨(hw _ (List.mem_of_getElem? (i := 3) rfl)), (hw _ (List.mem_of_getElem? (i := 4) rfl))⟩)
  have E_QUEUED := Exa.start ev_QUEUED g5
  obtain ⟨w_STARTING, ev_STARTING⟩ := exa_v g7
  have S_STARTING := Sta.start ev_STARTING (Or.inr ⟨(hw _ (List.mem_of_getElem? (i := 3) rfl)), (hw _ (List.mem_of_getElem? (i := 7) rfl))⟩)
  have E_STARTING := Exa.start ev_STARTING g7
  obtain ⟨w_RUNNING, ev_RUNNING⟩ := exa_v g9
  have S_RUNNING := Sta.start ev_RUNNING (Or.inr ⟨(hw _ (List.mem_of_getElem? (i := 3) rfl)), (hw _ (List.mem_of_getElem? (i := 9) rfl))⟩)
  have E_RUNNING := Exa.start ev_RUNNING g9
  obtain ⟨w_COMPLETED, ev_COMPLETED⟩ := exa_v g11
  have S_COMPLETED := Sta.start ev_COMPLETED (Or.inr ⟨(hw _ (List.mem_of_getElem? (i := 3) rfl)), (hw _ (List.mem_of_getElem? (i := 11) rfl))⟩)
  have E_COMPLETED := Exa.start ev_COMPLETED g11
  obtain ⟨w_FAILED, ev_FAILED⟩ := exa_v g13
  have S_FAILED := Sta.start ev_FAILED (Or.inr ⟨(hw _ (List.mem_of_getElem? (i := 3) rfl)), (hw _ (List.mem_of_getElem? (i := 13) rfl))⟩)
  have E_FAILED := Exa.start ev_FAILED g13
  obtain ⟨w_TIMED_OUT, ev_TIMED_OUT⟩ := exa_v g15
  have S_TIMED_OUT := Sta.start ev_TIMED_OUT (Or.inr ⟨(hw _ (List.mem_of_getElem? (i := 3) rfl)), (hw _ (List.mem_of_getElem? (i := 15) rfl))⟩)
  have E_TIMED_OUT := Exa.start ev_TIMED_OUT g15
  obtain ⟨w_CANCELLED, ev_CANCELLED⟩ := exa_v g17
  have S_CANCELLED := Sta.start ev_CANCELLED (Or.inr ⟨(hw _ (List.mem_of_getElem? (i := 3) rfl)), (hw _ (List.mem_of_getElem? (i := 17) rfl))⟩)
  have E_CANCELLED := Exa.start ev_CANCELLED g17
  have F_QUEUED_ordinal := own_fldI ev_QUEUED g19
  have F_COMPLETED_ordinal := own_fldI ev_COMPLETED g21
  have F_FAILED_ordinal := own_fldI ev_FAILED g23
  have F_TIMED_OUT_ordinal := own_fldI ev_TIMED_OUT g25
  have F_CANCELLED_ordinal := own_fldI ev_CANCELLED g27
  have F_STARTING_ordinal := own_fldI ev_STARTING g29
  have F_RUNNING_ordinal := own_fldI ev_RUNNING g30
  obtain ⟨n, o, h1, h2, h3, _, L, rfl, ⟨rfl, N⟩, hq⟩ := rm0 l s _ hw tables_1 i0 i1 w_QUEUED w_STARTING w_RUNNING w_COMPLETED w_FAILED w_TIMED_OUT w_CANCELLED s.heap s.heap.size (Nat.le_refl _) (Old.start s) S_QUEUED S_STARTING S_RUNNING S_COMPLETED S_FAILED S_TIMED_OUT S_CANCELLED E_QUEUED F_QUEUED_ordinal E_STARTING F_STARTING_ordinal E_RUNNING F_RUNNING_ordinal E_COMPLETED F_COMPLETED_ordinal E_FAILED F_FAILED_ordinal E_TIMED_OUT F_TIMED_OUT_ordinal E_CANCELLED F_CANCELLED_ordinal (F_QUEUED_ordinal.ne F_COMPLETED_ordinal (by decide)) (F_QUEUED_ordinal.ne F_FAILED_ordinal (by decide)) (F_QUEUED_ordinal.ne F_TIMED_OUT_ordinal (by decide)) (F_QUEUED_ordinal.ne F_CANCELLED_ordinal (by decide)) (F_STARTING_ordinal.ne F_COMPLETED_ordinal (by decide)) (F_STARTING_ordinal.ne F_FAILED_ordinal (by decide)) (F_STARTING_ordinal.ne F_TIMED_OUT_ordinal (by decide)) (F_STARTING_ordinal.ne F_CANCELLED_ordinal (by decide)) (F_RUNNING_ordinal.ne F_COMPLETED_ordinal (by decide)) (F_RUNNING_ordinal.ne F_FAILED_ordinal (by decide)) (F_RUNNING_ordinal.ne F_TIMED_OUT_ordinal (by decide)) (F_RUNNING_ordinal.ne F_CANCELLED_ordinal (by decide)) (F_FAILED_ordinal.ne F_COMPLETED_ordinal (by decide)) (F_TIMED_OUT_ordinal.ne F_COMPLETED_ordinal (by decide)) (F_TIMED_OUT_ordinal.ne F_FAILED_ordinal (by decide)) (F_CANCELLED_ordinal.ne F_COMPLETED_ordinal (by decide)) (F_CANCELLED_ordinal.ne F_FAILED_ordinal (by decide)) (F_CANCELLED_ordinal.ne F_TIMED_OUT_ordinal (by decide)) p e ha hc hk s m _ below hf ((Spec.applies_iff_loose hf).mp happ).1 ⟨rfl, State.Warmed39.refl s, rfl⟩ trivial
  refine ⟨n, _, h1, h2, h3, hpost _ _ _ _ _ _ ⟨Cond.after_iff.mpr rfl, Cond.after_iff.mpr (eq_i res_at (Term.int_eval (1)) rfl), trivial⟩ ⟨hq.1, hq.2.1, hq.2.2.1, (hq.2.2.2.sift fun y hy => Or.inr (N y hy)).mono (by decide) (by decide)⟩⟩
theorem main_1_1 : Claimed_1_1 := comes_1 fun _ _ _ _ _ _ h hF => ⟨h.1, hF⟩
theorem main_1_2 : Claimed_1_2 := comes_1 fun _ _ _ _ _ _ h hF => ⟨h.2.1, hF⟩
end Jvm.Pilot.@@N@@
namespace Jvm.Pilot.@@N@@
open Jvm Jvm.ClassFile Sem Op Lib Jvm.Free Jvm.Stand Jvm.Pilot.@@N@@.Jvm.D
/-! MADE BY PROGRAM (witnessworld.py) out of the Statement's table words and the real class files: 17 classes; the members and pool entries that the words name. The judged class is class 1, her method 1. -/
namespace start1
open Jvm.ClassFile
def u (s : String) : CpInfo := .utf8 (stringToUtf16 s)
/-- a pool by its gaps: so many unusable entries, then the entry; so many at the end -/
def gap : Nat → List CpInfo → List CpInfo
  | 0, r => r
  | n + 1, r => .unusable :: gap n r
def poolList (es : List (Nat × CpInfo)) (last : Nat) : List CpInfo := es.foldr (fun e r => gap e.1 (e.2 :: r)) (gap last [])
def pool (es : List (Nat × CpInfo)) (last : Nat) : Array CpInfo := ⟨poolList es last⟩
def fileOf (pool : Array CpInfo) (this : Nat) (attrs : Array Attribute := #[]) (ms : Array MethodInfo := #[]) (fl : Nat := 33) (sup : Nat := 0) (ifs : Array Nat := #[]) (fds : Array FieldInfo := #[]) : ClassFile where
  minorVersion := 0
  majorVersion := 65
  constantPool := pool
  accessFlags := fl
  thisClass := this
  superClass := sup
  interfaces := ifs
  fields := fds
  methods := ms
  attributes := attrs
def plain (name : String) (sup : Option ClassId) : Class where
  name := name
  kind := .ordinary
  loader := none
  accessFlags := 33
  super := sup
  interfaces := #[]
  cf := none
  fields := #[]
  methods := #[]
  instanceTypes := #[]
  staticTypes := #[]
  resolved := #[]
  callSites := []
  init := .initialized
  statics := none
  mirror := none

def pool0 : Array CpInfo := pool [(5, u "<init>"), (0, u "()V"), (1, .class_ 10), (1, u "java/lang/Object")] 113

def k0m0 : Method := { name := "<init>", desc := "()V", sig := { parameters := [], returnType := none }, accessFlags := 1, code := none }
/-- java/lang/Object -/
def k0 : Class := { plain "java/lang/Object" none with
  accessFlags := 33
  interfaces := #[]
  cf := some (fileOf pool0 8 #[] #[{ accessFlags := 1, nameIndex := 5, descriptorIndex := 6, attributes := #[] }] 33 0 #[] #[])
  fields := #[]
  methods := #[k0m0]
  instanceTypes := #[]
  staticTypes := #[]
  resolved := Array.replicate 124 none
  statics := none }

def pool1 : Array CpInfo := pool [(2, .class_ 4), (1, u "java/lang/Object"), (0, u "<init>"), (0, u "()V"), (0, .class_ 8), (0, u "com/example/workd/workd/model/JobState"), (0, .fieldref 7 10), (0, .nameAndType 11 12), (0, u "QUEUED"), (0, u "Lcom/example/workd/workd/model/JobState;"), (0, .fieldref 7 14), (0, .nameAndType 15 12), (0, u "STARTING"), (0, .fieldref 7 17), (0, .nameAndType 18 12), (0, u "RUNNING"), (0, .fieldref 7 20), (0, .nameAndType 21 12), (0, u "COMPLETED"), (0, .fieldref 7 23), (0, .nameAndType 24 12), (0, u "FAILED"), (0, .fieldref 7 26), (0, .nameAndType 27 12), (0, u "TIMED_OUT"), (0, .fieldref 7 29), (0, .nameAndType 30 12), (0, u "CANCELLED"), (0, .integer 2147483647), (0, .methodref 7 33), (0, .nameAndType 34 35), (0, u "isEndState"), (0, u "()Z"), (0, .methodref 7 37), (0, .nameAndType 38 39), (0, u "canMoveTo"), (0, u "(Lcom/example/workd/workd/model/JobState;)Z"), (0, .class_ 41), (0, u "com/example/workd/workd/model/JobStateIsEndStatePinLaw"), (2, u "law"), (0, u "(II)Z")] 5

def k1m0 : Method := { name := "<init>", desc := "()V", sig := { parameters := [], returnType := none }, accessFlags := 2, code := none }
def k1c1 : Code := { maxStack := 4, maxLocals := 8, code := code, exceptionTable := #[], attributes := #[] }
def k1m1 : Method := { name := "law", desc := "(II)Z", sig := { parameters := [.int, .int], returnType := some .boolean }, accessFlags := 9, code := some k1c1 }
/-- com/example/workd/workd/model/JobStateIsEndStatePinLaw -/
def k1 : Class := { plain "com/example/workd/workd/model/JobStateIsEndStatePinLaw" (some 0) with
  accessFlags := 49
  interfaces := #[]
  cf := some (fileOf pool1 40 #[] #[{ accessFlags := 2, nameIndex := 5, descriptorIndex := 6, attributes := #[] }, { accessFlags := 9, nameIndex := 44, descriptorIndex := 45, attributes := #[] }] 49 2 #[] #[])
  fields := #[]
  methods := #[k1m0, k1m1]
  instanceTypes := #[]
  staticTypes := #[]
  resolved := Array.replicate 51 none
  statics := none }

def pool2 : Array CpInfo := pool [(1, .class_ 2), (0, u "java/lang/constant/Constable"), (0, .class_ 4), (0, u "java/lang/Object")] 6

/-- java/lang/constant/Constable -/
def k2 : Class := { plain "java/lang/constant/Constable" (some 0) with
  accessFlags := 1537
  interfaces := #[]
  cf := some (fileOf pool2 1 #[] #[] 1537 3 #[] #[])
  fields := #[]
  methods := #[]
  instanceTypes := #[]
  staticTypes := #[]
  resolved := Array.replicate 11 none
  statics := none }

def pool3 : Array CpInfo := pool [(1, .class_ 2), (0, u "java/lang/Comparable"), (0, .class_ 4), (0, u "java/lang/Object")] 7

/-- java/lang/Comparable -/
def k3 : Class := { plain "java/lang/Comparable" (some 0) with
  accessFlags := 1537
  interfaces := #[]
  cf := some (fileOf pool3 1 #[] #[] 1537 3 #[] #[])
  fields := #[]
  methods := #[]
  instanceTypes := #[]
  staticTypes := #[]
  resolved := Array.replicate 12 none
  statics := none }

def pool4 : Array CpInfo := pool [(1, .class_ 2), (0, u "java/io/Serializable"), (0, .class_ 4), (0, u "java/lang/Object")] 2

/-- java/io/Serializable -/
def k4 : Class := { plain "java/io/Serializable" (some 0) with
  accessFlags := 1537
  interfaces := #[]
  cf := some (fileOf pool4 1 #[] #[] 1537 3 #[] #[])
  fields := #[]
  methods := #[]
  instanceTypes := #[]
  staticTypes := #[]
  resolved := Array.replicate 7 none
  statics := none }

def pool5 : Array CpInfo := pool [(2, .class_ 4), (1, u "java/lang/Enum"), (0, u "name"), (0, u "Ljava/lang/String;"), (0, .fieldref 2 8), (0, .nameAndType 9 10), (0, u "ordinal"), (0, u "I"), (1, .class_ 14), (1, u "java/lang/Object"), (4, u "hash"), (86, .class_ 108), (1, u "java/lang/Enum$EnumDesc"), (2, .class_ 112), (0, u "java/lang/constant/Constable"), (0, .class_ 114), (0, u "java/lang/Comparable"), (0, .class_ 116), (0, u "java/io/Serializable"), (9, u "()I")] 77

def k5c0 : Code := { maxStack := 1, maxLocals := 1, code := jdk_37_method_2_code, exceptionTable := #[], attributes := #[] }
def k5m0 : Method := { name := "ordinal", desc := "()I", sig := { parameters := [], returnType := some .int }, accessFlags := 17, code := some k5c0 }
/-- java/lang/Enum -/
def k5 : Class := { plain "java/lang/Enum" (some 0) with
  accessFlags := 1057
  interfaces := #[2, 3, 4]
  cf := some (fileOf pool5 2 #[.nestMembers #[106]] #[{ accessFlags := 17, nameIndex := 9, descriptorIndex := 126, attributes := #[] }] 1057 12 #[111, 113, 115] #[{ accessFlags := 18, nameIndex := 5, descriptorIndex := 6, attributes := #[] }, { accessFlags := 18, nameIndex := 9, descriptorIndex := 10, attributes := #[] }, { accessFlags := 2, nameIndex := 19, descriptorIndex := 10, attributes := #[] }])
  fields := #[{ name := "name", type := (.object "java/lang/String"), accessFlags := 18, slot := 0, constantValue := 0 }, { name := "ordinal", type := .int, accessFlags := 18, slot := 1, constantValue := 0 }, { name := "hash", type := .int, accessFlags := 2, slot := 2, constantValue := 0 }]
  methods := #[k5m0]
  instanceTypes := #[(.object "java/lang/String"), .int, .int]
  staticTypes := #[]
  resolved := Array.replicate 204 none
  statics := none }

def pool6 : Array CpInfo := pool [(1, .class_ 2), (0, u "com/example/workd/workd/model/JobState"), (2, u "QUEUED"), (0, u "Lcom/example/workd/workd/model/JobState;"), (2, u "STARTING"), (2, u "RUNNING"), (0, .fieldref 1 14), (0, .nameAndType 15 6), (0, u "COMPLETED"), (0, .fieldref 1 17), (0, .nameAndType 18 6), (0, u "FAILED"), (0, .fieldref 1 20), (0, .nameAndType 21 6), (0, u "TIMED_OUT"), (0, .fieldref 1 23), (0, .nameAndType 24 6), (0, u "CANCELLED"), (2, u "$VALUES"), (0, u "[Lcom/example/workd/workd/model/JobState;"), (6, .class_ 37), (1, u "java/lang/Enum"), (18, .string 57), (0, u "next"), (0, .methodref 59 60), (0, .class_ 61), (0, .nameAndType 62 63), (0, u "java/util/Objects"), (0, u "requireNonNull"), (0, u "(Ljava/lang/Object;Ljava/lang/String;)Ljava/lang/Object;"), (0, .methodref 1 65), (0, .nameAndType 66 67), (0, u "ordinal"), (0, u "()I"), (7, u "isEndState"), (0, u "()Z"), (3, .class_ 82), (1, u "com/example/workd/workd/model/JobState$1"), (46, u "canMoveTo"), (0, u "(Lcom/example/workd/workd/model/JobState;)Z")] 24

def k6c0 : Code := { maxStack := 2, maxLocals := 1, code := prog_19_method_6_code, exceptionTable := #[], attributes := #[] }
def k6m0 : Method := { name := "isEndState", desc := "()Z", sig := { parameters := [], returnType := some .boolean }, accessFlags := 1, code := some k6c0 }
def k6c1 : Code := { maxStack := 4, maxLocals := 3, code := prog_19_method_7_code, exceptionTable := #[], attributes := #[] }
def k6m1 : Method := { name := "canMoveTo", desc := "(Lcom/example/workd/workd/model/JobState;)Z", sig := { parameters := [(.object "com/example/workd/workd/model/JobState")], returnType := some .boolean }, accessFlags := 1, code := some k6c1 }
/-- com/example/workd/workd/model/JobState -/
def k6 : Class := { plain "com/example/workd/workd/model/JobState" (some 5) with
  accessFlags := 16433
  interfaces := #[]
  cf := some (fileOf pool6 1 #[.nestMembers #[80]] #[{ accessFlags := 1, nameIndex := 75, descriptorIndex := 76, attributes := #[] }, { accessFlags := 1, nameIndex := 129, descriptorIndex := 130, attributes := #[] }] 16433 35 #[] #[{ accessFlags := 16409, nameIndex := 5, descriptorIndex := 6, attributes := #[] }, { accessFlags := 16409, nameIndex := 9, descriptorIndex := 6, attributes := #[] }, { accessFlags := 16409, nameIndex := 12, descriptorIndex := 6, attributes := #[] }, { accessFlags := 16409, nameIndex := 15, descriptorIndex := 6, attributes := #[] }, { accessFlags := 16409, nameIndex := 18, descriptorIndex := 6, attributes := #[] }, { accessFlags := 16409, nameIndex := 21, descriptorIndex := 6, attributes := #[] }, { accessFlags := 16409, nameIndex := 24, descriptorIndex := 6, attributes := #[] }, { accessFlags := 4122, nameIndex := 27, descriptorIndex := 28, attributes := #[] }])
  fields := #[{ name := "QUEUED", type := (.object "com/example/workd/workd/model/JobState"), accessFlags := 16409, slot := 0, constantValue := 0 }, { name := "STARTING", type := (.object "com/example/workd/workd/model/JobState"), accessFlags := 16409, slot := 1, constantValue := 0 }, { name := "RUNNING", type := (.object "com/example/workd/workd/model/JobState"), accessFlags := 16409, slot := 2, constantValue := 0 }, { name := "COMPLETED", type := (.object "com/example/workd/workd/model/JobState"), accessFlags := 16409, slot := 3, constantValue := 0 }, { name := "FAILED", type := (.object "com/example/workd/workd/model/JobState"), accessFlags := 16409, slot := 4, constantValue := 0 }, { name := "TIMED_OUT", type := (.object "com/example/workd/workd/model/JobState"), accessFlags := 16409, slot := 5, constantValue := 0 }, { name := "CANCELLED", type := (.object "com/example/workd/workd/model/JobState"), accessFlags := 16409, slot := 6, constantValue := 0 }, { name := "$VALUES", type := (.array (.object "com/example/workd/workd/model/JobState")), accessFlags := 4122, slot := 7, constantValue := 0 }]
  methods := #[k6m0, k6m1]
  instanceTypes := #[(.object "java/lang/String"), .int, .int]
  staticTypes := #[(.object "com/example/workd/workd/model/JobState"), (.object "com/example/workd/workd/model/JobState"), (.object "com/example/workd/workd/model/JobState"), (.object "com/example/workd/workd/model/JobState"), (.object "com/example/workd/workd/model/JobState"), (.object "com/example/workd/workd/model/JobState"), (.object "com/example/workd/workd/model/JobState"), (.array (.object "com/example/workd/workd/model/JobState"))]
  resolved := Array.replicate 155 none
  statics := some 0 }

def pool7 : Array CpInfo := pool [(2, .class_ 4), (1, u "java/lang/CharSequence"), (42, .class_ 48), (0, u "java/lang/CharSequence$1CodePointIterator"), (10, .class_ 60), (0, u "java/lang/CharSequence$1CharIterator"), (5, .class_ 67), (0, u "java/lang/Object")] 63

/-- java/lang/CharSequence -/
def k7 : Class := { plain "java/lang/CharSequence" (some 0) with
  accessFlags := 1537
  interfaces := #[]
  cf := some (fileOf pool7 2 #[.nestMembers #[47, 59]] #[] 1537 66 #[] #[])
  fields := #[]
  methods := #[]
  instanceTypes := #[]
  staticTypes := #[]
  resolved := Array.replicate 131 none
  statics := none }

def pool8 : Array CpInfo := pool [(1, .class_ 2), (0, u "java/lang/constant/ConstantDesc"), (0, .class_ 4), (0, u "java/lang/Object")] 32

/-- java/lang/constant/ConstantDesc -/
def k8 : Class := { plain "java/lang/constant/ConstantDesc" (some 0) with
  accessFlags := 1537
  interfaces := #[]
  cf := some (fileOf pool8 1 #[] #[] 1537 3 #[] #[])
  fields := #[]
  methods := #[]
  instanceTypes := #[]
  staticTypes := #[]
  resolved := Array.replicate 37 none
  statics := none }

def pool9 : Array CpInfo := pool [(2, .class_ 4), (1, u "java/lang/Object"), (0, u "<init>"), (0, u "()V"), (3, .class_ 12), (1, u "java/lang/String"), (0, u "value"), (0, u "[B"), (2, u "coder"), (0, u "B"), (2, u "hash"), (0, u "I"), (2, u "hashIsZero"), (0, u "Z"), (13, u "COMPACT_STRINGS"), (534, .class_ 576), (0, u "java/lang/CharSequence"), (22, u "CASE_INSENSITIVE_ORDER"), (0, u "Ljava/util/Comparator;"), (500, u "serialPersistentFields"), (0, u "[Ljava/io/ObjectStreamField;"), (0, .class_ 1104), (0, u "java/lang/String$CaseInsensitiveComparator"), (1, .class_ 1107), (0, u "java/io/Serializable"), (0, .class_ 1109), (0, u "java/lang/Comparable"), (0, .class_ 1111), (0, u "java/lang/constant/Constable"), (0, .class_ 1113), (0, u "java/lang/constant/ConstantDesc"), (2, u "serialVersionUID"), (0, u "J"), (3, u "REPL"), (0, u "C"), (2, u "LATIN1"), (1, u "UTF16")] 323

def k9m0 : Method := { name := "<init>", desc := "()V", sig := { parameters := [], returnType := none }, accessFlags := 1, code := none }
/-- java/lang/String -/
def k9 : Class := { plain "java/lang/String" (some 0) with
  accessFlags := 49
  interfaces := #[4, 3, 7, 2, 8]
  cf := some (fileOf pool9 10 #[.nestMembers #[1103]] #[{ accessFlags := 1, nameIndex := 5, descriptorIndex := 6, attributes := #[] }] 49 2 #[1106, 1108, 575, 1110, 1112] #[{ accessFlags := 18, nameIndex := 13, descriptorIndex := 14, attributes := #[] }, { accessFlags := 18, nameIndex := 17, descriptorIndex := 18, attributes := #[] }, { accessFlags := 2, nameIndex := 21, descriptorIndex := 22, attributes := #[] }, { accessFlags := 2, nameIndex := 25, descriptorIndex := 26, attributes := #[] }, { accessFlags := 26, nameIndex := 1116, descriptorIndex := 1117, attributes := #[] }, { accessFlags := 24, nameIndex := 40, descriptorIndex := 26, attributes := #[] }, { accessFlags := 26, nameIndex := 1101, descriptorIndex := 1102, attributes := #[] }, { accessFlags := 26, nameIndex := 1121, descriptorIndex := 1122, attributes := #[] }, { accessFlags := 25, nameIndex := 599, descriptorIndex := 600, attributes := #[] }, { accessFlags := 24, nameIndex := 1125, descriptorIndex := 18, attributes := #[] }, { accessFlags := 24, nameIndex := 1127, descriptorIndex := 18, attributes := #[] }])
  fields := #[{ name := "value", type := (.array .byte), accessFlags := 18, slot := 0, constantValue := 0 }, { name := "coder", type := .byte, accessFlags := 18, slot := 1, constantValue := 0 }, { name := "hash", type := .int, accessFlags := 2, slot := 2, constantValue := 0 }, { name := "hashIsZero", type := .boolean, accessFlags := 2, slot := 3, constantValue := 0 }, { name := "serialVersionUID", type := .long, accessFlags := 26, slot := 0, constantValue := 0 }, { name := "COMPACT_STRINGS", type := .boolean, accessFlags := 24, slot := 1, constantValue := 0 }, { name := "serialPersistentFields", type := (.array (.object "java/io/ObjectStreamField")), accessFlags := 26, slot := 2, constantValue := 0 }, { name := "REPL", type := .char, accessFlags := 26, slot := 3, constantValue := 0 }, { name := "CASE_INSENSITIVE_ORDER", type := (.object "java/util/Comparator"), accessFlags := 25, slot := 4, constantValue := 0 }, { name := "LATIN1", type := .byte, accessFlags := 24, slot := 5, constantValue := 0 }, { name := "UTF16", type := .byte, accessFlags := 24, slot := 6, constantValue := 0 }]
  methods := #[k9m0]
  instanceTypes := #[(.array .byte), .byte, .int, .boolean]
  staticTypes := #[.long, .boolean, (.array (.object "java/io/ObjectStreamField")), .char, (.object "java/util/Comparator"), .byte, .byte]
  resolved := Array.replicate 1451 none
  statics := none }

def pool10 : Array CpInfo := pool [(2, .class_ 4), (1, u "java/lang/Object"), (0, u "<init>"), (0, u "()V"), (35, .class_ 44), (1, u "java/util/Objects"), (0, u "requireNonNull"), (48, u "(Ljava/lang/Object;Ljava/lang/String;)Ljava/lang/Object;")] 89

def k10m0 : Method := { name := "<init>", desc := "()V", sig := { parameters := [], returnType := none }, accessFlags := 2, code := none }
def k10c1 : Code := { maxStack := 3, maxLocals := 2, code := jdk_31_method_11_code, exceptionTable := #[], attributes := #[] }
def k10m1 : Method := { name := "requireNonNull", desc := "(Ljava/lang/Object;Ljava/lang/String;)Ljava/lang/Object;", sig := { parameters := [(.object "java/lang/Object"), (.object "java/lang/String")], returnType := some (.object "java/lang/Object") }, accessFlags := 9, code := some k10c1 }
/-- java/util/Objects -/
def k10 : Class := { plain "java/util/Objects" (some 0) with
  accessFlags := 49
  interfaces := #[]
  cf := some (fileOf pool10 42 #[] #[{ accessFlags := 2, nameIndex := 5, descriptorIndex := 6, attributes := #[] }, { accessFlags := 9, nameIndex := 45, descriptorIndex := 94, attributes := #[] }] 49 2 #[] #[])
  fields := #[]
  methods := #[k10m0, k10m1]
  instanceTypes := #[]
  staticTypes := #[]
  resolved := Array.replicate 184 none
  statics := none }

def pool11 : Array CpInfo := pool [(1, u "java/lang/Cloneable"), (0, .class_ 1), (0, u "java/lang/Object"), (0, .class_ 3)] 3

/-- java/lang/Cloneable -/
def k11 : Class := { plain "java/lang/Cloneable" (some 0) with
  accessFlags := 1537
  interfaces := #[]
  cf := some (fileOf pool11 2 #[] #[] 1537 4 #[] #[])
  fields := #[]
  methods := #[]
  instanceTypes := #[]
  staticTypes := #[]
  resolved := Array.replicate 8 none
  statics := none }

/-- the primitive byte -/
def k12 : Class := { plain "byte" none with kind := .primitive 'B', accessFlags := 0x411 }
/-- [B -/
def k13 : Class := { plain "[B" (some 0) with kind := .array 12 .byte, interfaces := #[11, 4], accessFlags := 1041 }

/-- the primitive int -/
def k14 : Class := { plain "int" none with kind := .primitive 'I', accessFlags := 0x411 }
/-- [I -/
def k15 : Class := { plain "[I" (some 0) with kind := .array 14 .int, interfaces := #[11, 4], accessFlags := 1041 }

/-- [Lcom/example/workd/workd/model/JobState; -/
def k16 : Class := { plain "[Lcom/example/workd/workd/model/JobState;" (some 0) with kind := .array 6 (.object "com/example/workd/workd/model/JobState"), interfaces := #[11, 4], accessFlags := 1041 }

def heap : Heap := #[{ cls := 6, slots := #[.ref 1, .ref 2, .ref 3, .ref 4, .ref 5, .ref 6, .ref 7, .null], vm := .statics 6 },
  { cls := 6, slots := #[.null, .int 0, .int 0], vm := .none },
  { cls := 6, slots := #[.null, .int 1, .int 0], vm := .none },
  { cls := 6, slots := #[.null, .int 2, .int 0], vm := .none },
  { cls := 6, slots := #[.null, .int 3, .int 0], vm := .none },
  { cls := 6, slots := #[.null, .int 4, .int 0], vm := .none },
  { cls := 6, slots := #[.null, .int 5, .int 0], vm := .none },
  { cls := 6, slots := #[.null, .int 6, .int 0], vm := .none }]
def classes : Array Class := #[k0, k1, k2, k3, k4, k5, k6, k7, k8, k9, k10, k11, k12, k13, k14, k15, k16]
def interned : List (Array UInt16 × Addr) := []
def slotsUsed : Nat := 29
def theMethod : MethodId := ⟨1, 1⟩
def args0 : Array Value := #[.int 3, .int 5]
def aboutOver (below : List Frame) : State where
  vm := { classes := classes, interned := interned.toArray }
  heap := heap
  slotsUsed := slotsUsed
  threads := #[{ frames := .invoking theMethod args0 :: below }]
def below0 : List Frame := [.native { method := ⟨0, 0⟩, args := #[] }]
def about1 : State := aboutOver below0
def p0 : Program := .bare "" "" ""
def e0 : Env := launch0.env 0 0 0
theorem w_frames : about1.frames = Frame.invoking theMethod args0 :: below0 := rfl
set_option maxRecDepth 65536 in
theorem w_args : argsFit about1.vm theMethod args0 = true := by decide +kernel
set_option maxRecDepth 65536 in
theorem w_heap : heapFits about1 = true := by decide +kernel
set_option maxRecDepth 65536 in
theorem w_runnable : about1.curStatus? = some .runnable := by decide +kernel
set_option maxRecDepth 65536 in
theorem w_alone : about1.alone = true := by decide +kernel
set_option maxRecDepth 65536 in
theorem w_named : about1.methodNamed? x = some theMethod := by decide +kernel
set_option maxRecDepth 65536 in
theorem w_hears : about1.hears theMethod below0 = true := by decide +kernel
set_option maxRecDepth 65536 in
theorem w_ripe : about1.ripe theMethod args0 below0 = true := by decide +kernel
theorem w_running : about1.status = .running := rfl
set_option maxRecDepth 65536 in
theorem w_room : about1.hasRoom e0.platform room_1 = true :=
  launch0.hasRoom_least _ room_1 (by decide +kernel) (by decide +kernel) (by decide +kernel) (by decide +kernel) (by decide +kernel) (by decide +kernel)
theorem allAtoms_all (ts : List Jvm.Cond) (a : Array Jvm.Value) (st : Jvm.State) : (allAtoms ts).before a st = ts.all (fun c => c.before a st) := by
  induction ts with
  | nil => rfl
  | cons c t ih =>
    show (Jvm.Cond.and c (allAtoms t)).before a st = _
    rw [Jvm.Cond.before_and, ih, List.all_cons]
def words1 : List Jvm.Cond := Jvm.Cond.code x code maxLocals ret :: tables_1
/-- a 'code' word, met by the world's own term for the bytes: nothing is compared byte by byte -/
theorem code_word {y : MethodName} {bytes : ByteArray} {mx : Nat} {rt : Option FieldType} {a : Array Value} {s : State} {m : MethodId} {meth : Method} {c : Code} (h1 : s.methodNamed? y = some m) (h2 : s.vm.method? m = some meth) (h3 : meth.code = some c) (h4 : c.code = bytes)
    (h5 : (c.maxLocals == mx && c.exceptionTable.isEmpty && decide (c.maxStack ≤ mostOperands) && decide (meth.sig.returnType = rt) && !meth.locks && decide (parseMethodDescriptor y.desc = some meth.sig)) = true) : (Jvm.Cond.code y bytes mx rt).before a s = true := by
  simp only [Bool.and_eq_true, beq_iff_eq, Bool.not_eq_true', decide_eq_true_eq] at h5
  obtain ⟨⟨⟨⟨⟨g1, g2⟩, g3⟩, g4⟩, g5⟩, g6⟩ := h5
  simp [Cond.before, Cond.holds, Cond.value, h1, h2, h3, h4, g1, g2, g3, g4, g5, g6]
def isCode : Jvm.Cond → Bool
  | .code _ _ _ _ => true
  | _ => false
theorem all_split {L : List Jvm.Cond} {P : Jvm.Cond → Bool} (h1 : L.all (fun c => isCode c || P c) = true) (h2 : ∀ c ∈ L.filter isCode, P c = true) : L.all P = true := by
  refine List.all_eq_true.mpr fun c hc => ?_
  have h := List.all_eq_true.mp h1 c hc
  rcases Bool.eq_false_or_eq_true (isCode c) with hi | hi
  · exact h2 c (List.mem_filter.mpr ⟨hc, hi⟩)
  · simpa [hi] using h
set_option maxRecDepth 65536 in
theorem w_c0 : (Jvm.Cond.code x code maxLocals ret).before args0 about1 = true := code_word (m := ⟨1, 1⟩) (meth := k1m1) (c := k1c1) (by decide +kernel) rfl rfl rfl (by decide +kernel)
set_option maxRecDepth 65536 in
theorem w_c1 : (Jvm.Cond.code ({ cls := "com/example/workd/workd/model/JobState", name := "isEndState", desc := "()Z" } : Jvm.MethodName) prog_19_method_6_code (1 : Nat) (Option.some Jvm.ClassFile.FieldType.boolean)).before args0 about1 = true := code_word (m := ⟨6, 0⟩) (meth := k6m0) (c := k6c0) (by decide +kernel) rfl rfl rfl (by decide +kernel)
set_option maxRecDepth 65536 in
theorem w_c2 : (Jvm.Cond.code ({ cls := "com/example/workd/workd/model/JobState", name := "canMoveTo", desc := "(Lcom/example/workd/workd/model/JobState;)Z" } : Jvm.MethodName) prog_19_method_7_code (3 : Nat) (Option.some Jvm.ClassFile.FieldType.boolean)).before args0 about1 = true := code_word (m := ⟨6, 1⟩) (meth := k6m1) (c := k6c1) (by decide +kernel) rfl rfl rfl (by decide +kernel)
set_option maxRecDepth 65536 in
theorem w_c3 : (Jvm.Cond.code ({ cls := "java/util/Objects", name := "requireNonNull", desc := "(Ljava/lang/Object;Ljava/lang/String;)Ljava/lang/Object;" } : Jvm.MethodName) jdk_31_method_11_code (2 : Nat) (Option.some (Jvm.ClassFile.FieldType.object "java/lang/Object"))).before args0 about1 = true := code_word (m := ⟨10, 1⟩) (meth := k10m1) (c := k10c1) (by decide +kernel) rfl rfl rfl (by decide +kernel)
set_option maxRecDepth 65536 in
theorem w_c4 : (Jvm.Cond.code ({ cls := "java/lang/Enum", name := "ordinal", desc := "()I" } : Jvm.MethodName) jdk_37_method_2_code (1 : Nat) (Option.some Jvm.ClassFile.FieldType.int)).before args0 about1 = true := code_word (m := ⟨5, 0⟩) (meth := k5m0) (c := k5c0) (by decide +kernel) rfl rfl rfl (by decide +kernel)
def codes1 : List Jvm.Cond := [Jvm.Cond.code x code maxLocals ret, Jvm.Cond.code ({ cls := "com/example/workd/workd/model/JobState", name := "isEndState", desc := "()Z" } : Jvm.MethodName) prog_19_method_6_code (1 : Nat) (Option.some Jvm.ClassFile.FieldType.boolean), Jvm.Cond.code ({ cls := "com/example/workd/workd/model/JobState", name := "canMoveTo", desc := "(Lcom/example/workd/workd/model/JobState;)Z" } : Jvm.MethodName) prog_19_method_7_code (3 : Nat) (Option.some Jvm.ClassFile.FieldType.boolean), Jvm.Cond.code ({ cls := "java/util/Objects", name := "requireNonNull", desc := "(Ljava/lang/Object;Ljava/lang/String;)Ljava/lang/Object;" } : Jvm.MethodName) jdk_31_method_11_code (2 : Nat) (Option.some (Jvm.ClassFile.FieldType.object "java/lang/Object")), Jvm.Cond.code ({ cls := "java/lang/Enum", name := "ordinal", desc := "()I" } : Jvm.MethodName) jdk_37_method_2_code (1 : Nat) (Option.some Jvm.ClassFile.FieldType.int)]
set_option maxRecDepth 65536 in
theorem codes_eq : words1.filter isCode = codes1 := rfl
theorem w_codes : ∀ c ∈ words1.filter isCode, c.before args0 about1 = true := by
  rw [codes_eq]
  intro c hc
  simp only [codes1, List.mem_cons, List.not_mem_nil, or_false] at hc
  rcases hc with rfl | rfl | rfl | rfl | rfl
  · exact w_c0
  · exact w_c1
  · exact w_c2
  · exact w_c3
  · exact w_c4
set_option maxRecDepth 65536 in
theorem w_t1 : (words1.take 24).all (fun c => isCode c || c.before args0 about1) = true := by decide +kernel
set_option maxRecDepth 65536 in
theorem w_t2 : ((words1.drop 24).take 24).all (fun c => isCode c || c.before args0 about1) = true := by decide +kernel
set_option maxRecDepth 65536 in
theorem w_t3 : ((words1.drop 24).drop 24).all (fun c => isCode c || c.before args0 about1) = true := by decide +kernel
theorem w_tables : (allAtoms (Jvm.Cond.code x code maxLocals ret :: tables_1)).before args0 about1 = true := by
  rw [allAtoms_all]
  show words1.all (fun c => c.before args0 about1) = true
  refine all_split ?_ w_codes
  rw [← List.take_append_drop 24 words1, List.all_append, w_t1, ← List.take_append_drop 24 (words1.drop 24), List.all_append, w_t2, w_t3]
  rfl
set_option maxRecDepth 65536 in
theorem w_case : (Jvm.Cond.and given_1 narrow_1).before args0 about1 = true := by decide +kernel
theorem w_applies : (headSpec (Jvm.Cond.code x code maxLocals ret :: tables_1) room_1).applies x e0.platform about1 = true :=
  (Spec.applies_iff w_frames).mpr ⟨w_running, w_runnable, w_alone, w_named, w_hears, w_ripe, w_room, w_tables⟩
theorem atStart : AtStart classFile x code maxLocals ret World_1 tables_1 room_1 Calls_1 rest_1 Pre_1 launch0 p0 e0 about1 theMethod args0 below0 :=
  ⟨lists_1, trivial, launch0.admits_env _ _ _, launch0.least_env, fairChoices_fair.cas, fairChoices_fair.clock, w_frames, w_args, w_heap, w_applies, trivial, trivial, w_case⟩
end start1
theorem witness_1 : WitnessClaimed_1 := ⟨start1.p0, start1.e0, start1.about1, start1.theMethod, start1.args0, start1.below0, start1.atStart⟩
end Jvm.Pilot.@@N@@
