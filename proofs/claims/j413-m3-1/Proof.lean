import JvmDerived
import JvmDerived.Pilot.@@N@@Statement
import JvmDerived.Pilot.@@N@@Code
set_option linter.unusedVariables false
set_option linter.unusedSimpArgs false
namespace Jvm.RoadKit
open Sem ClassFile Op Lib Jvm.Stand Jvm.Free Jvm.LawKit
section New
variable {p : Program} {l : Launch} {e : Env} {R : Room} {s : State} {m : MethodId} {args : Array Value} {below : List Frame} {meth : Method} {c : Code} {T : State} {locs : List Loc} {cells slots : Nat}
theorem retI (X : Stand p l e R s m args below meth c T locs cells slots) (hx : p.tables.exec = Jvm.exec) {pc : Nat} {Ls : Array Slot} {z : Int32} {rest : List Value} (hret : meth.sig.returnType = some .int) (hd : decode c.code pc = .ok (.ireturn, 1)) {fs : List Frame}
    (hl : ∀ (f : JFrame) (acts : List Action), f.method = m → f.locked = none → f.entered = [] → (doReturn e (T.setTop f) acts (some (.int z))).1 = T.setFrames fs) : Steps p.tables e below (T.setTop (mkF m pc Ls (.int z :: rest))) (T.setFrames fs) := by
  have hm' : T.vm.method? m = some meth := X.method'
  have hn : narrow .int (.int z) = .int z := rfl
  show Steps p.tables e below (T.setTop { method := m, pc := pc, locals := Ls, stack := _ :: rest, locked := none }) _
  jvm_step X.here [X.here.top, hx, hd, hm', hret, hn]
  first | (intro acts; rw [hl _ acts rfl rfl rfl]) | rw [hl _ _ rfl rfl rfl]
  exact Steps.refl _
end New
end Jvm.RoadKit
namespace Jvm.Pilot.@@N@@
open Jvm Jvm.ClassFile Sem Op Lib Jvm.Free Jvm.Stand Jvm.LawKit Jvm.RoadKit Bundle Jvm.Pilot.@@N@@.Jvm.D
theorem own_eqI {args : Array Value} {s : State} {t : Jvm.Term} {k : Int32} (h : (Jvm.Cond.eq t (.int k)).value args s none s [] = some true) : t.eval args s none [] s = some (.int k) := by
  cases ht : t.eval args s none [] s with
  | none => simp [Jvm.Cond.value, ht] at h
  | some x => cases x <;> simp [Jvm.Cond.value, ht, Jvm.Term.eval] at h ⊢; exact h
theorem own_eqR {args : Array Value} {s : State} {t u : Jvm.Term} {w : Addr} (hu : u.eval args s none [] s = some (.ref w)) (h : (Jvm.Cond.eq t u).value args s none s [] = some true) : t.eval args s none [] s = some (.ref w) := by
  cases ht : t.eval args s none [] s with
  | none => simp [Jvm.Cond.value, ht] at h
  | some x => cases x <;> simp [Jvm.Cond.value, ht, hu] at h ⊢; exact h
theorem own_fldI {args : Array Value} {s : State} {t : Jvm.Term} {w : Addr} {C n d : String} {k : Int32} (ht : t.eval args s none [] s = some (.ref w)) (h : (Jvm.Cond.eq (Jvm.Term.field t C n d) (.int k)).value args s none s [] = some true) : Fld s s.heap w C n d (.int k) := Fld.start ((fld_at ht).symm.trans (own_eqI h))
theorem own_fldN {args : Array Value} {s : State} {t : Jvm.Term} {w : Addr} {C n d : String} (ht : t.eval args s none [] s = some (.ref w)) (h : (Jvm.Cond.eq (Jvm.Term.field t C n d) .null).value args s none s [] = some true) : Fld s s.heap w C n d .null := Fld.start ((fld_at ht).symm.trans (null_v h))
theorem own_fldR {args : Array Value} {s : State} {t : Jvm.Term} {w y : Addr} {C n d : String} (ht : t.eval args s none [] s = some (.ref w)) (h : (Jvm.Term.field t C n d).eval args s none [] s = some (.ref y)) : Fld s s.heap w C n d (.ref y) := Fld.start ((fld_at ht).symm.trans h)
theorem own_len {args : Array Value} {s : State} {t : Jvm.Term} {y : Addr} {cl : Cell} {ty : FieldType} {z : Int32} (ht : t.eval args s none [] s = some (.ref y)) (A : Arr s s.heap y cl ty) (h : (Jvm.Cond.eq (Jvm.Term.length t) (.int z)).value args s none s [] = some true) : cl.slots.size.toInt32 = z := by
  obtain ⟨b, cell, q⟩ := Jvm.Lib.length_spec (own_eqI h)
  have hb : y = b := Value.ref.inj (Option.some.inj (ht.symm.trans q.1))
  have hc : cell = cl := Option.some.inj (q.2.1.symm.trans (by rw [← hb]; exact IntBox.arrayAt_of A.1 A.2.1 A.2.2))
  rw [← hc]
  exact (Value.int.inj q.2.2.2).symm
theorem own_len31 {args : Array Value} {s : State} {t : Jvm.Term} {y : Addr} {cl : Cell} {ty : FieldType} {z : Int32} (ht : t.eval args s none [] s = some (.ref y)) (A : Arr s s.heap y cl ty) (h : (Jvm.Cond.eq (Jvm.Term.length t) (.int z)).value args s none s [] = some true) : cl.slots.size < 2 ^ 31 := by
  obtain ⟨b, cell, q⟩ := Jvm.Lib.length_spec (own_eqI h)
  have hb : y = b := Value.ref.inj (Option.some.inj (ht.symm.trans q.1))
  have hc : cell = cl := Option.some.inj (q.2.1.symm.trans (by rw [← hb]; exact IntBox.arrayAt_of A.1 A.2.1 A.2.2))
  rw [← hc]
  exact q.2.2.1
theorem own_nar {x : Int32} (h : x = 0 ∨ x = 1) : nar .boolean x = x := by rcases h with rfl | rfl <;> rfl
theorem own_nb {x : Int32} (h : x = 0 ∨ x = 1) : narrow .boolean (.int x) = .int x := by rcases h with rfl | rfl <;> rfl
theorem own_fb {x : Int32} (h : x = 0 ∨ x = 1) : fits .boolean (.int x) = true := by rcases h with rfl | rfl <;> rfl
theorem own_nsroot {Z : State} {a0 : Array Value} {O K : String} {n : Nat} (w : (Jvm.Cond.noSuperclass O).before a0 Z = true) (wk : (Jvm.Cond.instantiable K n).before a0 Z = true) (hn : O ≠ K) : NS Z O K := by
  obtain ⟨c, k, h1, h2, h3, -, -⟩ := Cond.noSuperclass_spec w
  obtain ⟨t, kt, g1, -⟩ := Cond.instantiable_spec wk
  have ne := ids_ne h1 g1 hn
  refine ⟨c, t, h1, g1, fun fuel => ?_⟩
  cases fuel with
  | zero => rfl
  | succ f => simp [Vm.isSubclassAux, ne, h2, h3]
theorem own_nsno {Z : State} {a0 : Array Value} {C K : String} {n n' : Nat} (w : (Jvm.Cond.instantiable C n').before a0 Z = true) (wk : (Jvm.Cond.instantiable K n).before a0 Z = true) (q : NS Z C K) (hn : C ≠ K) : ∃ c t, Z.vm.findClass C = some c ∧ Z.vm.findClass K = some t ∧ Z.vm.assignable c t = false := by
  obtain ⟨c, t, h0, g0, n3⟩ := q
  obtain ⟨c', k, h1, h2, h3, h4, -⟩ := Cond.instantiable_spec w
  obtain ⟨t', k', g1, g2, g3, g4, -⟩ := Cond.instantiable_spec wk
  cases h0.symm.trans h1
  cases g0.symm.trans g1
  have ne := ids_ne h0 g0 hn
  simp only [Bool.or_eq_false_iff] at g4
  refine ⟨c, t, h0, g0, ?_⟩
  show Z.vm.assignableAux (255 + 1) c t = false
  simp [Vm.assignableAux, ne, h2, g2, h3, g3, g4.1, Vm.isSubclass, n3]
theorem own_cin {p : Int32} {cc : Cell} (hz : cc.slots.size = (256 : Int32).toNatClampNeg) (h1 : ¬ p < (-128 : Int32)) (h2 : ¬ (127 : Int32) < p) : ¬ (p + (128 : Int32) < 0 ∨ cc.slots.size ≤ (p + (128 : Int32)).toNatClampNeg) := by
  have e := c_iadd p 128
  have r := rng32 p
  have r' := rng32 (p + 128)
  have k1 : (128 : Int32).toInt = 128 := by decide
  have k2 : (-128 : Int32).toInt = -128 := by decide
  have k3 : (127 : Int32).toInt = 127 := by decide
  have k4 : (256 : Int32).toInt = 256 := by decide
  have k5 : (0 : Int32).toInt = 0 := by decide
  rw [Int32.lt_iff_toInt_lt] at h1 h2
  refine inb_of hz ⟨?_, ?_⟩
  · rw [Int32.lt_iff_toInt_lt]; omega
  · rw [Int32.lt_iff_toInt_lt]; omega
theorem own_sub128 (p : Int32) : p + (128 : Int32) - (128 : Int32) = p := by
  rw [← Int32.toInt_inj]
  have e := c_iadd p 128
  have e' := c_isub (p + 128) 128
  have r := rng32 p
  have r' := rng32 (p + 128 - 128)
  have k1 : (128 : Int32).toInt = 128 := by decide
  omega
def own_bt (x : Int64) (k : Int32) : Bool := decide (¬ (lcmpW (x &&& ((1 : Int64) <<< (k &&& 0x3f).toInt64)) (0 : Int64) = (0 : Int32)))
def own_pos (k : Int32) : Nat := k.toBitVec.toNat % 64
theorem own_pos_lt (k : Int32) : own_pos k < 64 := Nat.mod_lt _ (by decide)
theorem own_one (k : Int32) : ((1 : Int64) <<< (k &&& 0x3f).toInt64).toBitVec = BitVec.twoPow 64 (own_pos k) := by
  show ((1 : Int64).toBitVec <<< ((k &&& 0x3f).toInt64.toBitVec.smod 64)) = _
  rw [BitVec.shiftLeft_eq', (sm64 k _ rfl).1, smod64 _ (sm64 k _ rfl).2]
  rfl
theorem own_bt_eq (x : Int64) (k : Int32) : own_bt x k = x.toBitVec.getLsbD (own_pos k) := by
  have h : (lcmpW (x &&& ((1 : Int64) <<< (k &&& 0x3f).toInt64)) 0 = 0) ↔ x.toBitVec.getLsbD (own_pos k) = false := by
    rw [lw_eq, ← Int64.toBitVec_inj]
    show x.toBitVec &&& ((1 : Int64) <<< (k &&& 0x3f).toInt64).toBitVec = 0#64 ↔ _
    rw [own_one, BitVec.and_twoPow]
    by_cases q : x.toBitVec.getLsbD (own_pos k) = true
    · rw [if_pos q]
      refine ⟨fun z => ?_, fun z => absurd (q.symm.trans z) (by decide)⟩
      have := congrArg (fun y : BitVec 64 => y.getLsbD (own_pos k)) z
      simp [BitVec.getLsbD_twoPow, own_pos_lt k] at this
    · rw [if_neg q]
      simpa using q
  unfold own_bt
  by_cases q : x.toBitVec.getLsbD (own_pos k) = true
  · rw [q]; exact decide_eq_true (fun z => absurd (q.symm.trans (h.mp z)) (by decide))
  · rw [Bool.not_eq_true] at q; rw [q]; exact decide_eq_false (fun z => z (h.mpr q))
theorem own_bt_zero (k : Int32) : own_bt 0 k = false := by rw [own_bt_eq]; show (0#64).getLsbD _ = false; simp
theorem own_bt_or (x : Int64) (k j : Int32) : own_bt (x ||| ((1 : Int64) <<< (k &&& 0x3f).toInt64)) j = (decide (own_pos j = own_pos k) || own_bt x j) := by
  rw [own_bt_eq, own_bt_eq]
  show (x.toBitVec ||| ((1 : Int64) <<< (k &&& 0x3f).toInt64).toBitVec).getLsbD _ = _
  rw [own_one, BitVec.getLsbD_or, BitVec.getLsbD_twoPow]
  have := own_pos_lt k
  by_cases q : own_pos j = own_pos k
  · simp [q, this]
  · have q' : ¬ own_pos k = own_pos j := fun z => q z.symm
    simp [q, q', this]
theorem own_bt_clr (x : Int64) (k j : Int32) : own_bt (x &&& (((1 : Int64) <<< (k &&& 0x3f).toInt64) ^^^ (-1 : Int64))) j = (!decide (own_pos j = own_pos k) && own_bt x j) := by
  rw [own_bt_eq, own_bt_eq]
  show (x.toBitVec &&& (((1 : Int64) <<< (k &&& 0x3f).toInt64).toBitVec ^^^ (-1 : Int64).toBitVec)).getLsbD _ = _
  rw [own_one, BitVec.getLsbD_and, BitVec.getLsbD_xor, BitVec.getLsbD_twoPow, show (-1 : Int64).toBitVec = BitVec.allOnes 64 from by decide, BitVec.getLsbD_allOnes]
  have := own_pos_lt k
  have := own_pos_lt j
  by_cases q : own_pos j = own_pos k
  · simp [q, own_pos_lt k]
  · have q' : ¬ own_pos k = own_pos j := fun z => q z.symm
    simp [q, q', own_pos_lt k, own_pos_lt j]
def own_wd (k : Int32) : Int32 := (k / (64 : Int32)) - (1 : Int32)
def own_mem (lo : Int64) (hi : Nat → Int64) (k : Int32) : Bool := if k < (64 : Int32) then own_bt lo k else own_bt (hi (own_wd k).toNatClampNeg) k
theorem own_pos_i {k : Int32} (h0 : 0 ≤ k.toInt) : (own_pos k : Int) = k.toInt % 64 := by
  have h : k.toInt = (k.toBitVec.toNat : Int) := by
    have e : k.toInt = k.toBitVec.toInt := rfl
    have := k.toBitVec.isLt
    have q := BitVec.toInt_eq_toNat_cond k.toBitVec
    rw [← e] at q
    split at q <;> omega
  rw [h]; unfold own_pos; omega
theorem own_wd_i {k : Int32} (h0 : ¬ k < (64 : Int32)) (h1 : k.toInt < 1024) : (own_wd k).toInt = k.toInt / 64 - 1 := by
  rw [Int32.lt_iff_toInt_lt] at h0
  have k64 : (64 : Int32).toInt = 64 := by decide
  have k1 : (1 : Int32).toInt = 1 := by decide
  have d := (c_idiv k 64 64 (by decide) (by decide)).1 (by omega)
  have s := c_isub (k / 64) 1
  have r := rng32 (k / 64 - 1)
  show (k / 64 - 1).toInt = _
  omega
theorem own_wd_nn {k : Int32} (h0 : ¬ k < (64 : Int32)) (h1 : k.toInt < 1024) : ¬ own_wd k < 0 := by
  have := own_wd_i h0 h1
  have k0 : (0 : Int32).toInt = 0 := by decide
  have k64 : (64 : Int32).toInt = 64 := by decide
  rw [Int32.lt_iff_toInt_lt] at h0 ⊢
  omega
theorem own_wd_n {k : Int32} (h0 : ¬ k < (64 : Int32)) (h1 : k.toInt < 1024) : ((own_wd k).toNatClampNeg : Int) = k.toInt / 64 - 1 := by
  rw [← own_wd_i h0 h1, nat_of (own_wd_nn h0 h1)]
def own_upd (hi : Nat → Int64) (i : Nat) (x : Int64) : Nat → Int64 := fun j => if j = i then x else hi j
theorem own_set_lo {lo : Int64} {hi : Nat → Int64} {k j : Int32} (hk : k < (64 : Int32)) (k0 : 0 ≤ k.toInt) (j0 : 0 ≤ j.toInt) : own_mem (lo ||| ((1 : Int64) <<< (k &&& 0x3f).toInt64)) hi j = (decide (j = k) || own_mem lo hi j) := by
  have p1 := own_pos_i k0
  have p2 := own_pos_i j0
  have k64 : (64 : Int32).toInt = 64 := by decide
  unfold own_mem
  by_cases hj : j < (64 : Int32)
  · rw [if_pos hj, if_pos hj, own_bt_or]
    rw [Int32.lt_iff_toInt_lt] at hk hj
    congr 1
    refine decide_eq_decide.mpr ⟨fun q => Int32.toInt_inj.mp (by omega), fun q => by rw [q]⟩
  · rw [if_neg hj, if_neg hj]
    have : ¬ j = k := fun q => hj (q ▸ hk)
    simp [this]
theorem own_set_hi {lo : Int64} {hi : Nat → Int64} {k j : Int32} (hk : ¬ k < (64 : Int32)) (k1 : k.toInt < 1024) (j0 : 0 ≤ j.toInt) (j1 : j.toInt < 1024) : own_mem lo (own_upd hi (own_wd k).toNatClampNeg (hi (own_wd k).toNatClampNeg ||| ((1 : Int64) <<< (k &&& 0x3f).toInt64))) j = (decide (j = k) || own_mem lo hi j) := by
  have k64 : (64 : Int32).toInt = 64 := by decide
  unfold own_mem
  by_cases hj : j < (64 : Int32)
  · rw [if_pos hj, if_pos hj]
    have : ¬ j = k := fun q => hk (q ▸ hj)
    simp [this]
  · rw [if_neg hj, if_neg hj]
    have w1 := own_wd_n hk k1
    have w2 := own_wd_n hj j1
    have hk' := hk
    have hj' := hj
    rw [Int32.lt_iff_toInt_lt] at hk' hj'
    have p1 := own_pos_i (k := k) (by omega)
    have p2 := own_pos_i j0
    unfold own_upd
    by_cases e : (own_wd j).toNatClampNeg = (own_wd k).toNatClampNeg
    · rw [if_pos e, own_bt_or, e]
      congr 1
      refine decide_eq_decide.mpr ⟨fun q => Int32.toInt_inj.mp (by omega), fun q => by rw [q]⟩
    · rw [if_neg e]
      have : ¬ j = k := fun q => e (by rw [q])
      simp [this]
theorem own_clr_lo {lo : Int64} {hi : Nat → Int64} {k j : Int32} (hk : k < (64 : Int32)) (k0 : 0 ≤ k.toInt) (j0 : 0 ≤ j.toInt) : own_mem (lo &&& (((1 : Int64) <<< (k &&& 0x3f).toInt64) ^^^ (-1 : Int64))) hi j = (!decide (j = k) && own_mem lo hi j) := by
  have p1 := own_pos_i k0
  have p2 := own_pos_i j0
  have k64 : (64 : Int32).toInt = 64 := by decide
  unfold own_mem
  by_cases hj : j < (64 : Int32)
  · rw [if_pos hj, if_pos hj, own_bt_clr]
    rw [Int32.lt_iff_toInt_lt] at hk hj
    congr 2
    refine decide_eq_decide.mpr ⟨fun q => Int32.toInt_inj.mp (by omega), fun q => by rw [q]⟩
  · rw [if_neg hj, if_neg hj]
    have : ¬ j = k := fun q => hj (q ▸ hk)
    simp [this]
theorem own_clr_hi {lo : Int64} {hi : Nat → Int64} {k j : Int32} (hk : ¬ k < (64 : Int32)) (k1 : k.toInt < 1024) (j0 : 0 ≤ j.toInt) (j1 : j.toInt < 1024) : own_mem lo (own_upd hi (own_wd k).toNatClampNeg (hi (own_wd k).toNatClampNeg &&& (((1 : Int64) <<< (k &&& 0x3f).toInt64) ^^^ (-1 : Int64)))) j = (!decide (j = k) && own_mem lo hi j) := by
  have k64 : (64 : Int32).toInt = 64 := by decide
  unfold own_mem
  by_cases hj : j < (64 : Int32)
  · rw [if_pos hj, if_pos hj]
    have : ¬ j = k := fun q => hk (q ▸ hj)
    simp [this]
  · rw [if_neg hj, if_neg hj]
    have w1 := own_wd_n hk k1
    have w2 := own_wd_n hj j1
    have hk' := hk
    have hj' := hj
    rw [Int32.lt_iff_toInt_lt] at hk' hj'
    have p1 := own_pos_i (k := k) (by omega)
    have p2 := own_pos_i j0
    unfold own_upd
    by_cases e : (own_wd j).toNatClampNeg = (own_wd k).toNatClampNeg
    · rw [if_pos e, own_bt_clr, e]
      congr 2
      refine decide_eq_decide.mpr ⟨fun q => Int32.toInt_inj.mp (by omega), fun q => by rw [q]⟩
    · rw [if_neg e]
      have : ¬ j = k := fun q => e (by rw [q])
      simp [this]
def own_ws (hi : Nat → Int64) (z : Int32) : List Value := (List.range z.toNatClampNeg).map fun i => Value.long (hi i)
theorem own_ws_len (hi : Nat → Int64) (z : Int32) : (own_ws hi z).length = z.toNatClampNeg := by simp [own_ws]
theorem own_ws_get {hi : Nat → Int64} {z : Int32} (hz : ∀ i, z.toNatClampNeg ≤ i → hi i = 0) (i : Nat) : (own_ws hi z).getD i (.long (0 : Int64)) = .long (hi i) := by
  rw [List.getD_eq_getElem?_getD]
  by_cases q : i < z.toNatClampNeg
  · simp [own_ws, q]
  · rw [List.getElem?_eq_none (by rw [own_ws_len]; omega), hz i (by omega)]; rfl
theorem own_ws_set {hi : Nat → Int64} {z : Int32} (hz : ∀ i, z.toNatClampNeg ≤ i → hi i = 0) {w : Nat} (hw : w < z.toNatClampNeg) (x : Int64) (i : Nat) : (own_ws (own_upd hi w x) z).getD i (.long (0 : Int64)) = ((own_ws hi z).set w (.long x)).getD i (.long (0 : Int64)) := by
  have hz' : ∀ i, z.toNatClampNeg ≤ i → own_upd hi w x i = 0 := fun i hi' => by unfold own_upd; rw [if_neg (by omega)]; exact hz i hi'
  rw [own_ws_get hz', List.getD_eq_getElem?_getD, List.getElem?_set]
  unfold own_upd
  by_cases q : w = i
  · subst q; simp [own_ws_len, hw]
  · rw [if_neg (fun z => q z.symm), if_neg q, ← List.getD_eq_getElem?_getD, own_ws_get hz]
theorem own_selPriv {s : State} {args : Array Value} {y : MethodName} {n : Nat} (wi : (Jvm.Cond.instantiable y.cls n).before args s = true) (hp : s.PrivateAt y) (hi : (Jvm.Cond.instanceMethod y).before args s = true) (hy : y.cls ≠ "java/lang/invoke/MethodHandle" ∧ y.cls ≠ "java/lang/invoke/VarHandle") : (Jvm.Cond.selects y.cls y y).before args s = true := by
  obtain ⟨c, k, h1, h2, -, h4, -⟩ := Cond.instantiable_spec wi
  simp only [Bool.or_eq_false_iff] at h4
  exact Jvm.Stand.selects_self_of_private h1 h2 h4.1 hp hi hy
theorem own_ltN {w z : Int32} (h0 : ¬ w < 0) (h : w < z) : w.toNatClampNeg < z.toNatClampNeg := by
  have a := nat_of h0
  have hz : ¬ z < 0 := fun q => h0 (Int32.lt_trans h q)
  have b := nat_of hz
  rw [Int32.lt_iff_toInt_lt] at h
  omega
theorem own_ws_zero (z : Int32) (i : Nat) : (own_ws (fun _ => 0) z).getD i (.long (0 : Int64)) = ([] : List Value).getD i (.long (0 : Int64)) := by
  rw [own_ws_get (fun _ _ => rfl)]; rfl
theorem own_ws_copy {hi : Nat → Int64} {z z2 : Int32} (hz : ∀ i, z.toNatClampNeg ≤ i → hi i = 0) (hle : z.toNatClampNeg ≤ z2.toNatClampNeg) (i : Nat) : (own_ws hi z2).getD i (.long (0 : Int64)) = ((own_ws (fun _ => 0) z2).take (0 : Int32).toNatClampNeg ++ ((List.range z.toNatClampNeg).map fun i => (own_ws hi z).getD ((0 : Int32).toNatClampNeg + i) (.long (0 : Int64))) ++ (own_ws (fun _ => 0) z2).drop ((0 : Int32).toNatClampNeg + z.toNatClampNeg)).getD i (.long (0 : Int64)) := by
  have e0 : (0 : Int32).toNatClampNeg = 0 := by decide
  have e1 : ((List.range z.toNatClampNeg).map fun i => (own_ws hi z).getD ((0 : Int32).toNatClampNeg + i) (.long (0 : Int64))) = own_ws hi z := by
    unfold own_ws
    refine List.map_congr_left fun j hj => ?_
    have := own_ws_get hz j
    unfold own_ws at this
    rw [e0, Nat.zero_add]; exact this
  rw [e1, e0, Nat.zero_add, List.take_zero, List.nil_append, own_ws_get (fun i hi' => hz i (Nat.le_trans hle hi'))]
  rw [List.getD_eq_getElem?_getD]
  by_cases q : i < z.toNatClampNeg
  · rw [List.getElem?_append_left (by rw [own_ws_len]; exact q), ← List.getD_eq_getElem?_getD, own_ws_get hz]
  · rw [List.getElem?_append_right (by rw [own_ws_len]; omega), own_ws_len, List.getElem?_drop, ← List.getD_eq_getElem?_getD, own_ws_get (fun _ _ => rfl), hz i (by omega)]
def own_ad (b : Bool) (k : Int32) (M : Int32 → Bool) : Int32 → Bool := fun j => (b && decide (j = k)) || M j
def own_rm (k : Int32) (M : Int32 → Bool) : Int32 → Bool := fun j => !decide (j = k) && M j
def own_in (j : Int32) : Prop := 0 ≤ j.toInt ∧ j.toInt < 1024
def Tg (Z : State) (h : Heap) (n0 : Nat) (a : Addr) (c : Nat) (M : Int32 → Bool) : Prop :=
  ∃ (lo : Int64) (ha : Addr) (kc : ClassId) (z : Int32) (hi : Nat → Int64) (n : Int32) (ll : List Int32),
    Exa Z h a "com/example/dramatis/dramatis/analysis/RoleGraph$Targets" ∧ Fld Z h a "com/example/dramatis/dramatis/analysis/RoleGraph$Targets" "low" "J" (.long lo) ∧ Fld Z h a "com/example/dramatis/dramatis/analysis/RoleGraph$Targets" "high" "[J" (.ref ha) ∧ Fld Z h a "com/example/dramatis/dramatis/analysis/RoleGraph$Targets" "size" "I" (.int n) ∧
    Arv Z h ha kc .long z (own_ws hi z) (.long (0 : Int64)) ∧ (n0 ≤ ha ∨ z = 0) ∧ z.toInt ≤ 15 ∧ (∀ i, z.toNatClampNeg ≤ i → hi i = 0) ∧
    (∀ j : Int32, own_in j → own_mem lo hi j = M j) ∧
    ll.Nodup ∧ (∀ j, j ∈ ll ↔ (own_in j ∧ M j = true)) ∧ n.toInt = (ll.length : Int) ∧ ll.length ≤ c
theorem Tg.ext {Z : State} {h h' : Heap} {n0 : Nat} {a : Addr} {c : Nat} {M : Int32 → Bool} (T : Tg Z h n0 a c M) (E : Ext h h') : Tg Z h' n0 a c M := by
  obtain ⟨lo, ha, kc, z, hi, n, ll, h1, h2, h3, h4, h5, r⟩ := T
  exact ⟨lo, ha, kc, z, hi, n, ll, h1.ext E, h2.ext E, h3.ext E, h4.ext E, h5.ext E, r⟩
theorem Tg.keep {Z : State} {h h' : Heap} {n0 : Nat} {a : Addr} {c : Nat} {M : Int32 → Bool} (T : Tg Z h n0 a c M) (K : Keep h h' []) : Tg Z h' n0 a c M := by
  obtain ⟨lo, ha, kc, z, hi, n, ll, h1, h2, h3, h4, h5, r⟩ := T
  exact ⟨lo, ha, kc, z, hi, n, ll, h1.keep K, h2.keep K nin0, h3.keep K nin0, h4.keep K nin0, h5.keep K nin0, r⟩
theorem Tg.congr {Z : State} {h : Heap} {n0 : Nat} {a : Addr} {c c' : Nat} {M M' : Int32 → Bool} (T : Tg Z h n0 a c M) (hc : c ≤ c') (e : ∀ j, own_in j → M j = M' j) : Tg Z h n0 a c' M' := by
  obtain ⟨lo, ha, kc, z, hi, n, ll, h1, h2, h3, h4, h5, h6, h7, h8, h9, h10, h11, h12, h13⟩ := T
  refine ⟨lo, ha, kc, z, hi, n, ll, h1, h2, h3, h4, h5, h6, h7, h8, fun j hj => (h9 j hj).trans (e j hj), h10, fun j => (h11 j).trans ⟨fun q => ⟨q.1, by rw [← e j q.1]; exact q.2⟩, fun q => ⟨q.1, by rw [e j q.1]; exact q.2⟩⟩, h12, by omega⟩
theorem own_card_add {ll : List Int32} {M : Int32 → Bool} {k n : Int32} {c : Nat} (hnd : ll.Nodup) (hmem : ∀ j, j ∈ ll ↔ (own_in j ∧ M j = true)) (hm : M k = false) (hk : own_in k) (hn : n.toInt = (ll.length : Int)) (hl : ll.length ≤ c) (hc : c ≤ 3) :
    (k :: ll).Nodup ∧ (∀ j, j ∈ k :: ll ↔ (own_in j ∧ own_ad true k M j = true)) ∧ (n + (1 : Int32)).toInt = ((k :: ll).length : Int) ∧ (k :: ll).length ≤ c + 1 := by
  refine ⟨List.nodup_cons.mpr ⟨fun q => (by rw [((hmem k).mp q).2] at hm; cases hm), hnd⟩, fun j => ?_, ?_, by simp; omega⟩
  · rw [List.mem_cons, hmem]
    unfold own_ad
    by_cases q : j = k
    · subst q; simp [hk]
    · simp [q]
  · have s := c_iadd n 1
    have k1 : (1 : Int32).toInt = 1 := by decide
    have r := rng32 (n + 1)
    simp only [List.length_cons]
    omega
theorem own_card_rem {ll : List Int32} {M : Int32 → Bool} {k n : Int32} {c : Nat} (hnd : ll.Nodup) (hmem : ∀ j, j ∈ ll ↔ (own_in j ∧ M j = true)) (hm : M k = true) (hk : own_in k) (hn : n.toInt = (ll.length : Int)) (hl : ll.length ≤ c) :
    (ll.erase k).Nodup ∧ (∀ j, j ∈ ll.erase k ↔ (own_in j ∧ own_rm k M j = true)) ∧ (n - (1 : Int32)).toInt = ((ll.erase k).length : Int) ∧ (ll.erase k).length ≤ c := by
  have hkm : k ∈ ll := (hmem k).mpr ⟨hk, hm⟩
  have e := List.length_erase_of_mem hkm
  have pos : 0 < ll.length := List.length_pos_of_mem hkm
  refine ⟨hnd.erase k, fun j => ?_, ?_, by omega⟩
  · rw [hnd.mem_erase_iff, hmem]
    unfold own_rm
    by_cases q : j = k
    · subst q; simp
    · simp [q]
  · have s := c_isub n 1
    have k1 : (1 : Int32).toInt = 1 := by decide
    have r := rng32 (n - 1)
    have rn := rng32 n
    rw [e]
    omega
theorem own_gha {n0 : Nat} {ha : Addr} {w z : Int32} (hfr : n0 ≤ ha ∨ z = 0) (h0 : ¬ w < 0) (h : w < z) : n0 ≤ ha := by
  rcases hfr with q | q
  · exact q
  · rw [q] at h; exact absurd h h0
theorem own_upd_z {hi : Nat → Int64} {m w : Nat} {x : Int64} (hz : ∀ i, m ≤ i → hi i = 0) (hw : w < m) : ∀ i, m ≤ i → own_upd hi w x i = 0 := fun i q => by
  unfold own_upd; rw [if_neg (by omega)]; exact hz i q
theorem own_lt_of_mem {lo : Int64} {hi : Nat → Int64} {k z : Int32} (hk : ¬ k < (64 : Int32)) (k1 : k.toInt < 1024) (zn : ¬ z < 0) (hz : ∀ i, z.toNatClampNeg ≤ i → hi i = 0) (hm : own_mem lo hi k = true) : own_wd k < z := by
  rw [Int32.lt_iff_toInt_lt]
  refine Int.not_le.mp fun q => ?_
  have a := nat_of (own_wd_nn hk k1)
  have b := nat_of zn
  unfold own_mem at hm
  rw [if_neg hk, hz _ (by omega), own_bt_zero] at hm
  cases hm
theorem own_tr (x : Int32) : own_in (((x &&& (1023 : Int32)) - (1 : Int32)) + (1 : Int32)) ∧ ¬ ((x &&& (1023 : Int32)) - (1 : Int32)) < (-1 : Int32) := by
  have m := c_mask x 1023 10 (by decide) (by decide)
  have s := c_isub (x &&& 1023) 1
  have a := c_iadd ((x &&& 1023) - 1) 1
  have r1 := rng32 ((x &&& 1023) - 1)
  have r2 := rng32 ((x &&& 1023) - 1 + 1)
  have k1 : (1 : Int32).toInt = 1 := by decide
  have k2 : (-1 : Int32).toInt = -1 := by decide
  unfold own_in
  rw [Int32.lt_iff_toInt_lt]
  omega
theorem own_t1 {a b : Int32} : a + (1 : Int32) = b + (1 : Int32) ↔ a = b := by
  refine ⟨fun q => ?_, fun q => by rw [q]⟩
  have e := congrArg Int32.toInt q
  have s := c_iadd a 1
  have s' := c_iadd b 1
  have r := rng32 a
  have r' := rng32 b
  refine Int32.toInt_inj.mp ?_
  omega
theorem own_M3 (kk t0 t1 t2 j : Int32) : own_ad (decide ((2 : Int32) < kk)) (t2 + (1 : Int32)) (own_ad (decide ((1 : Int32) < kk)) (t1 + (1 : Int32)) (own_ad (decide ((0 : Int32) < kk)) (t0 + (1 : Int32)) (fun _ => false))) j = true ↔ ((0 : Int32) < kk ∧ j = t0 + (1 : Int32)) ∨ ((1 : Int32) < kk ∧ j = t1 + (1 : Int32)) ∨ ((2 : Int32) < kk ∧ j = t2 + (1 : Int32)) := by
  unfold own_ad
  simp only [Bool.or_eq_true, Bool.and_eq_true, decide_eq_true_eq]
  constructor
  · rintro (q | q | q | q)
    · exact Or.inr (Or.inr q)
    · exact Or.inr (Or.inl q)
    · exact Or.inl q
    · cases q
  · rintro (q | q | q)
    · exact Or.inr (Or.inr (Or.inl q))
    · exact Or.inr (Or.inl q)
    · exact Or.inl q
theorem own_le1 {kk : Int32} (h : (1 : Int32) < kk) : (0 : Int32) < kk := by rw [Int32.lt_iff_toInt_lt] at *; have a : (1 : Int32).toInt = 1 := (by decide); have b : (0 : Int32).toInt = 0 := (by decide); omega
theorem own_le2 {kk : Int32} (h : (2 : Int32) < kk) : (1 : Int32) < kk := by rw [Int32.lt_iff_toInt_lt] at *; have a : (2 : Int32).toInt = 2 := (by decide); have b : (1 : Int32).toInt = 1 := (by decide); omega
/-- the answer that isEmpty is to give -/
def own_ans (r : Int32) (M : Int32 → Bool) : Prop := (r = 1 ∧ ∀ j, own_in j → M j = false) ∨ (r = 0 ∧ ∃ j, own_in j ∧ M j = true)
theorem own_ans_of {c : Prop} [Decidable c] {r : Int32} {M : Int32 → Bool} (hr : r = if c then 0 else 1) (h : c ↔ ∃ j, own_in j ∧ M j = true) : own_ans r M := by
  by_cases q : c
  · exact Or.inr ⟨by rw [hr, if_pos q], h.mp q⟩
  · refine Or.inl ⟨by rw [hr, if_neg q], fun j hj => ?_⟩
    rcases Bool.eq_false_or_eq_true (M j) with z | z
    · exact absurd (h.mpr ⟨j, hj, z⟩) q
    · exact z
theorem own_ans0 {kk t0 t1 t2 f0 f1 f2 r : Int32} (i0 : own_in (t0 + (1 : Int32))) (hf0 : f0 = if (0 : Int32) < kk then (1 : Int32) else 0) (hf1 : f1 = if (1 : Int32) < kk then (1 : Int32) else 0) (hf2 : f2 = if (2 : Int32) < kk then (1 : Int32) else 0)
    (hr : r = if f0 = 0 then (if f1 = 0 then (if f2 = 0 then (1 : Int32) else 0) else 0) else 0) : own_ans r (own_ad (decide ((2 : Int32) < kk)) (t2 + (1 : Int32)) (own_ad (decide ((1 : Int32) < kk)) (t1 + (1 : Int32)) (own_ad (decide ((0 : Int32) < kk)) (t0 + (1 : Int32)) (fun _ => false)))) := by
  refine own_ans_of (c := (0 : Int32) < kk) ?_ ⟨fun q => ⟨_, i0, (own_M3 ..).mpr (Or.inl ⟨q, rfl⟩)⟩, ?_⟩
  · rw [hr, hf0, hf1, hf2]
    by_cases q : (0 : Int32) < kk
    · simp [q]
    · have q1 : ¬ (1 : Int32) < kk := fun z => q (own_le1 z)
      have q2 : ¬ (2 : Int32) < kk := fun z => q1 (own_le2 z)
      simp [q, q1, q2]
  · rintro ⟨j, -, q⟩
    rcases (own_M3 ..).mp q with ⟨z, -⟩ | ⟨z, -⟩ | ⟨z, -⟩
    · exact z
    · exact own_le1 z
    · exact own_le1 (own_le2 z)
theorem own_ans1 {kk t0 t1 t2 f1 f2 g1 g2 r : Int32} (i1 : own_in (t1 + (1 : Int32))) (i2 : own_in (t2 + (1 : Int32))) (hf1 : f1 = if (1 : Int32) < kk then (1 : Int32) else 0) (hf2 : f2 = if (2 : Int32) < kk then (1 : Int32) else 0)
    (hg1 : g1 = if f1 = 0 then (0 : Int32) else (if t1 = t0 then (0 : Int32) else 1)) (hg2 : g2 = if f2 = 0 then (0 : Int32) else (if t2 = t0 then (0 : Int32) else 1))
    (hr : r = if g1 = 0 then (if g2 = 0 then (1 : Int32) else 0) else 0) : own_ans r (own_rm (t0 + (1 : Int32)) (own_ad (decide ((2 : Int32) < kk)) (t2 + (1 : Int32)) (own_ad (decide ((1 : Int32) < kk)) (t1 + (1 : Int32)) (own_ad (decide ((0 : Int32) < kk)) (t0 + (1 : Int32)) (fun _ => false))))) := by
  have key : ∀ j, own_rm (t0 + (1 : Int32)) (own_ad (decide ((2 : Int32) < kk)) (t2 + (1 : Int32)) (own_ad (decide ((1 : Int32) < kk)) (t1 + (1 : Int32)) (own_ad (decide ((0 : Int32) < kk)) (t0 + (1 : Int32)) (fun _ => false)))) j = true ↔ ¬ j = t0 + (1 : Int32) ∧ (((0 : Int32) < kk ∧ j = t0 + (1 : Int32)) ∨ ((1 : Int32) < kk ∧ j = t1 + (1 : Int32)) ∨ ((2 : Int32) < kk ∧ j = t2 + (1 : Int32))) := fun j => by
    rw [← own_M3 kk t0 t1 t2 j]
    unfold own_rm
    simp
  refine own_ans_of (c := ((1 : Int32) < kk ∧ ¬ t1 = t0) ∨ ((2 : Int32) < kk ∧ ¬ t2 = t0)) ?_ ⟨?_, ?_⟩
  · rw [hr, hg1, hg2, hf1, hf2]
    by_cases q1 : (1 : Int32) < kk <;> by_cases q2 : (2 : Int32) < kk <;> by_cases e1 : t1 = t0 <;> by_cases e2 : t2 = t0 <;> simp [q1, q2, e1, e2]
  · rintro (⟨q, e⟩ | ⟨q, e⟩)
    · exact ⟨_, i1, (key _).mpr ⟨fun z => e (own_t1.mp z), Or.inr (Or.inl ⟨q, rfl⟩)⟩⟩
    · exact ⟨_, i2, (key _).mpr ⟨fun z => e (own_t1.mp z), Or.inr (Or.inr ⟨q, rfl⟩)⟩⟩
  · rintro ⟨j, -, q⟩
    obtain ⟨ne, q⟩ := (key j).mp q
    rcases q with ⟨-, z⟩ | ⟨z, e⟩ | ⟨z, e⟩
    · exact absurd z ne
    · exact Or.inl ⟨z, fun y => ne (by rw [e, y])⟩
    · exact Or.inr ⟨z, fun y => ne (by rw [e, y])⟩
theorem own_ans3 {kk t0 t1 t2 f0 f2 g0 g2 r : Int32} (i0 : own_in (t0 + (1 : Int32))) (i2 : own_in (t2 + (1 : Int32))) (hf0 : f0 = if (0 : Int32) < kk then (1 : Int32) else 0) (hf2 : f2 = if (2 : Int32) < kk then (1 : Int32) else 0)
    (hg0 : g0 = if f0 = 0 then (0 : Int32) else (if t0 = t1 then (0 : Int32) else 1)) (hg2 : g2 = if f2 = 0 then (0 : Int32) else (if t2 = t1 then (0 : Int32) else 1))
    (hr : r = if g0 = 0 then (if g2 = 0 then (1 : Int32) else 0) else 0) : own_ans r (own_rm (t1 + (1 : Int32)) (own_ad (decide ((2 : Int32) < kk)) (t2 + (1 : Int32)) (own_ad (decide ((1 : Int32) < kk)) (t1 + (1 : Int32)) (own_ad (decide ((0 : Int32) < kk)) (t0 + (1 : Int32)) (fun _ => false))))) := by
  have key : ∀ j, own_rm (t1 + (1 : Int32)) (own_ad (decide ((2 : Int32) < kk)) (t2 + (1 : Int32)) (own_ad (decide ((1 : Int32) < kk)) (t1 + (1 : Int32)) (own_ad (decide ((0 : Int32) < kk)) (t0 + (1 : Int32)) (fun _ => false)))) j = true ↔ ¬ j = t1 + (1 : Int32) ∧ (((0 : Int32) < kk ∧ j = t0 + (1 : Int32)) ∨ ((1 : Int32) < kk ∧ j = t1 + (1 : Int32)) ∨ ((2 : Int32) < kk ∧ j = t2 + (1 : Int32))) := fun j => by
    rw [← own_M3 kk t0 t1 t2 j]
    unfold own_rm
    simp
  refine own_ans_of (c := ((0 : Int32) < kk ∧ ¬ t0 = t1) ∨ ((2 : Int32) < kk ∧ ¬ t2 = t1)) ?_ ⟨?_, ?_⟩
  · rw [hr, hg0, hg2, hf0, hf2]
    by_cases q1 : (0 : Int32) < kk <;> by_cases q2 : (2 : Int32) < kk <;> by_cases e1 : t0 = t1 <;> by_cases e2 : t2 = t1 <;> simp [q1, q2, e1, e2]
  · rintro (⟨q, e⟩ | ⟨q, e⟩)
    · exact ⟨_, i0, (key _).mpr ⟨fun z => e (own_t1.mp z), Or.inl ⟨q, rfl⟩⟩⟩
    · exact ⟨_, i2, (key _).mpr ⟨fun z => e (own_t1.mp z), Or.inr (Or.inr ⟨q, rfl⟩)⟩⟩
  · rintro ⟨j, -, q⟩
    obtain ⟨ne, q⟩ := (key j).mp q
    rcases q with ⟨z, e⟩ | ⟨-, z⟩ | ⟨z, e⟩
    · exact Or.inl ⟨z, fun y => ne (by rw [e, y])⟩
    · exact absurd z ne
    · exact Or.inr ⟨z, fun y => ne (by rw [e, y])⟩
theorem own_d_jdk_18_1_0 : decode jdk_18_method_1_code 0 = .ok (.aload_n 0, 1) := by decide +kernel
theorem own_d_jdk_18_1_1 : decode jdk_18_method_1_code 1 = .ok (.invokespecial 1, 3) := by decide +kernel
theorem own_d_jdk_18_1_4 : decode jdk_18_method_1_code 4 = .ok (.return_, 1) := by decide +kernel
theorem own_pn0 : plainName "java/lang/Number" = true := by first | (simp [plainName, overriddenIn]; done) | decide +kernel
theorem ef_rmNI (m : MethodId) (a1 : Addr) : entryFrame m #[(.ref a1)] 1 = mkF m 0 #[.val (.ref a1)] [] := by first | (simp [entryFrame, mkF, argsToLocals, Value.category]; done) | rfl
def Q_rmNI (Z : State) (a1 : Addr) (h0 : Heap) (n0 : Nat) (v : Option Value) (h : Heap) (L : List Loc) : Prop := v = none ∧ Fr n0 L ∧ h = h0
set_option maxRecDepth 65536 in
set_option maxHeartbeats 40000000 in
theorem rmNI (l : Launch) (Z : State) (a0 : Array Value) (hw : ∀ d ∈ tables_1, d.before a0 Z = true) (ws : List Jvm.Cond) (a1 : Addr) (h0 : Heap) (n0 : Nat) (Z0 : n0 ≤ h0.size)  :
    MetFree l (⟨"java/lang/Number", "<init>", "()V"⟩ : MethodName) (head1 (Jvm.Cond.code (⟨"java/lang/Number", "<init>", "()V"⟩ : MethodName) jdk_18_method_1_code 1 none :: ws) ({ frames := 1, cells := 0, slots := 0, locals := 12 } : Room)) (fun a U => a = #[(.ref a1)] ∧ Z.Warmed39 U.vm ∧ U.heap = h0) (fun _ _ _ _ _ => True) (fun _ U o U' => ∃ v L, o = .returned v ∧ Q_rmNI Z a1 h0 n0 (v) U'.heap (L) ∧ FrameEnd U o U' L 0 0) := by
  refine MetFree.of_bodySF (plainFor_of_name own_pn0) hisR ?_
  intro p e s m args below meth c s₁ Bd hml0 hP hK
  obtain ⟨rfl, hZ, hh⟩ := hP
  have hx := Bd.exec
  have hby := Bd.bytes
  have hml : c.maxLocals = 1 := hml0
  have hown : s.vm.findClass "java/lang/Number" = some m.cls := findClass_of_methodNamed Bd.named
  have hnm := (name_of_methodNamed Bd.named Bd.method).1
  have X0 : Stand p l e ({ frames := 1, cells := 0, slots := 0, locals := 12 } : Room) s m #[(.ref a1)] below meth c s₁ [] 0 0 := Stand.of_body Bd
  have e0 : s₁.heap = h0 := by rw [← hh, Bd.state]; rfl
  have N0 := Fr.nil n0
  have pre0 : ∀ tgt, Steps p.tables e below (s₁.setTop (mkF m 0 #[.val (.ref a1)] [])) tgt → Steps p.tables e below (s₁.setTop (entryFrame m #[(.ref a1)] 1)) tgt := fun tgt k => castTop (ef_rmNI m a1) k
  obtain ⟨T1, X1, eh1, st1⟩ := initO X0 hx hZ hown (hw _ (List.mem_of_getElem? (i := 74) rfl)) (hw _ (List.mem_of_getElem? (i := 18) rfl)) (hw _ (List.mem_of_getElem? (i := 19) rfl)) e0 (g := (mkF m 1 #[.val (.ref a1)] [(.ref a1)])) rfl (by rw [hml]; rfl) rfl (hb hby own_d_jdk_18_1_1) (by decide) (W := 0) (by show 2 * 0 + _ ≤ _; exact Nat.le_of_eq rfl) (by decide)
  obtain ⟨fs, hr, hrun, hended, hW, hsame⟩ := X1.leave (v := none) (fun _ => rfl)
  refine ⟨_, _, pre0 _ ?_, hrun, hended, _, _, rfl, ?_, ⟨_, rfl⟩, hW, hsame.mono (by decide) (by decide)⟩
  ·
    show Steps p.tables e below (s₁.setTop (mkF m 0 #[.val (.ref a1)] [])) _
    refine XS.aloadN X0.here hx rfl (hb hby own_d_jdk_18_1_0) rfl rfl ?_
    show Steps p.tables e below (s₁.setTop (mkF m 1 #[.val (.ref a1)] [(.ref a1)])) _
    refine st1 _ ?_
    show Steps p.tables e below (T1.setTop (mkF m 4 #[.val (.ref a1)] [])) _
    exact X1.returnOut hx Bd.returns (hb hby own_d_jdk_18_1_4) hr
  ·
    show Q_rmNI Z a1 h0 n0 (_) T1.heap (_)
    rw [eh1]
    exact ⟨rfl, N0, rfl⟩
theorem own_d_jdk_33_23_0 : decode jdk_33_method_23_code 0 = .ok (.aload_n 0, 1) := by decide +kernel
theorem own_d_jdk_33_23_1 : decode jdk_33_method_23_code 1 = .ok (.invokespecial 202, 3) := by decide +kernel
theorem own_pd0 : parseMethodDescriptor "()V" = some ⟨[], none⟩ := by decide +kernel
theorem own_d_jdk_33_23_4 : decode jdk_33_method_23_code 4 = .ok (.aload_n 0, 1) := by decide +kernel
theorem own_d_jdk_33_23_5 : decode jdk_33_method_23_code 5 = .ok (.iload_n 1, 1) := by decide +kernel
theorem own_d_jdk_33_23_6 : decode jdk_33_method_23_code 6 = .ok (.putfield 205, 3) := by decide +kernel
theorem own_d_jdk_33_23_9 : decode jdk_33_method_23_code 9 = .ok (.return_, 1) := by decide +kernel
theorem own_pn1 : plainName "java/lang/Integer" = true := by first | (simp [plainName, overriddenIn]; done) | decide +kernel
theorem ef_rmII (m : MethodId) (a1 : Addr) (p1 : Int32) : entryFrame m #[(.ref a1), (.int p1)] 2 = mkF m 0 #[.val (.ref a1), .val (.int p1)] [] := by first | (simp [entryFrame, mkF, argsToLocals, Value.category]; done) | rfl
def Q_rmII (Z : State) (a1 : Addr) (p1 : Int32) (h0 : Heap) (n0 : Nat) (v : Option Value) (h : Heap) (L : List Loc) : Prop := v = none ∧ Fr n0 L ∧ Keep h0 h [a1] ∧ Exa Z h a1 "java/lang/Integer" ∧ Fld Z h a1 "java/lang/Integer" "value" "I" (.int p1)
set_option maxRecDepth 65536 in
set_option maxHeartbeats 40000000 in
theorem rmII (l : Launch) (Z : State) (a0 : Array Value) (hw : ∀ d ∈ tables_1, d.before a0 Z = true) (ws : List Jvm.Cond) (a1 : Addr) (p1 : Int32) (h0 : Heap) (n0 : Nat) (Z0 : n0 ≤ h0.size) (E1 : Exa Z h0 a1 "java/lang/Integer") (F1 : Fld Z h0 a1 "java/lang/Integer" "value" "I" (.int (0 : Int32))) (g1 : n0 ≤ a1) :
    MetFree l (⟨"java/lang/Integer", "<init>", "(I)V"⟩ : MethodName) (head1 (Jvm.Cond.code (⟨"java/lang/Integer", "<init>", "(I)V"⟩ : MethodName) jdk_33_method_23_code 2 none :: ws) ({ frames := 2, cells := 0, slots := 0, locals := 24 } : Room)) (fun a U => a = #[(.ref a1), (.int p1)] ∧ Z.Warmed39 U.vm ∧ U.heap = h0) (fun _ _ _ _ _ => True) (fun _ U o U' => ∃ v L, o = .returned v ∧ Q_rmII Z a1 p1 h0 n0 (v) U'.heap (L) ∧ FrameEnd U o U' L 0 0) := by
  refine MetFree.of_bodySF (plainFor_of_name own_pn1) hisR ?_
  intro p e s m args below meth c s₁ Bd hml0 hP hK
  obtain ⟨rfl, hZ, hh⟩ := hP
  have hx := Bd.exec
  have hby := Bd.bytes
  have hml : c.maxLocals = 2 := hml0
  have hown : s.vm.findClass "java/lang/Integer" = some m.cls := findClass_of_methodNamed Bd.named
  have hnm := (name_of_methodNamed Bd.named Bd.method).1
  have X0 : Stand p l e ({ frames := 2, cells := 0, slots := 0, locals := 24 } : Room) s m #[(.ref a1), (.int p1)] below meth c s₁ [] 0 0 := Stand.of_body Bd
  have e0 : s₁.heap = h0 := by rw [← hh, Bd.state]; rfl
  have N0 := Fr.nil n0
  have pre0 : ∀ tgt, Steps p.tables e below (s₁.setTop (mkF m 0 #[.val (.ref a1), .val (.int p1)] [])) tgt → Steps p.tables e below (s₁.setTop (entryFrame m #[(.ref a1), (.int p1)] 2)) tgt := fun tgt k => castTop (ef_rmII m a1 p1) k
  obtain ⟨_, _, ⟨T1, L1, k1, n1⟩, -, X1, ⟨Lc1, hQ1, l1, y1, z1⟩, st1⟩ := X0.specialBack hx (y := (⟨"java/lang/Number", "<init>", "()V"⟩ : MethodName)) rfl hown (mvT hZ (hw _ (List.mem_of_getElem? (i := 68) rfl))) (mvT hZ (hw _ (List.mem_of_getElem? (i := 69) rfl))) (mvT hZ (hw _ (List.mem_of_getElem? (i := 73) rfl))) (by decide) (backOf (W := 0) (rmNI l Z a0 hw [] a1 h0 n0 Z0 ) hZ (hw _ (List.mem_of_getElem? (i := 73) rfl)) (hw _ (List.mem_of_getElem? (i := 72) rfl)) (by decide) (by decide)) (g := (mkF m 1 #[.val (.ref a1), .val (.int p1)] [(.ref a1)])) rfl (by rw [hml]; rfl) (Steps.refl _) (a := a1) (argsL := []) (rest := []) (lenOf own_pd0 rfl) rfl (by show 2 * 0 + _ ≤ _; exact Nat.le_of_eq rfl) (hb hby own_d_jdk_33_23_1) (fun _ _ => ⟨rfl, e0, (by decide : 0 + 0 ≤ _), (by decide : 0 + 0 ≤ _)⟩)
  dsimp only [Pt.U, Pt.locs, Pt.cells, Pt.slots] at X1 l1 y1 z1 st1 hQ1
  subst l1 y1 z1
  obtain ⟨rfl, N1q, eq1⟩ := hQ1
  have N1 := Fr.app N0 N1q
  obtain ⟨T2, h2, X2, eh2, W2, st2⟩ := putF X1 hx hZ hown (host := "") (Or.inl (hw _ (List.mem_of_getElem? (i := 55) rfl))) Via.refl eq1 F1 E1 (Or.inr ⟨(hw _ (List.mem_of_getElem? (i := 56) rfl)), rfl, hnm⟩) (hw _ (List.mem_of_getElem? (i := 64) rfl)) (ty := .int) (by decide) rfl rfl (g := (mkF m 6 #[.val (.ref a1), .val (.int p1)] [(.int p1), (.ref a1)])) rfl rfl (hb hby own_d_jdk_33_23_6)
  have Fw2 := F1.same W2
  have Zs3 : n0 ≤ h2.size := Nat.le_trans Z0 (Nat.le_of_eq W2.size.symm)
  have N3 := Fr.snoc X2 N1 g1
  have Kp3 : Keep h0 h2 [a1] := (Keep.refl h0 [a1]).wr W2 (Or.inl (List.mem_of_getElem? (i := 0) rfl))
  obtain ⟨fs, hr, hrun, hended, hW, hsame⟩ := X2.leave (v := none) (fun _ => rfl)
  refine ⟨_, _, pre0 _ ?_, hrun, hended, _, _, rfl, ?_, ⟨_, rfl⟩, hW, hsame.mono (by decide) (by decide)⟩
  ·
    show Steps p.tables e below (s₁.setTop (mkF m 0 #[.val (.ref a1), .val (.int p1)] [])) _
    refine XS.aloadN X0.here hx rfl (hb hby own_d_jdk_33_23_0) rfl rfl ?_
    show Steps p.tables e below (s₁.setTop (mkF m 1 #[.val (.ref a1), .val (.int p1)] [(.ref a1)])) _
    refine st1.trans ?_
    show Steps p.tables e below (T1.setTop (mkF m 4 #[.val (.ref a1), .val (.int p1)] [])) _
    refine XS.aloadN X1.here hx rfl (hb hby own_d_jdk_33_23_4) rfl rfl ?_
    show Steps p.tables e below (T1.setTop (mkF m 5 #[.val (.ref a1), .val (.int p1)] [(.ref a1)])) _
    refine XS.iloadN X1.here hx rfl (hb hby own_d_jdk_33_23_5) rfl ?_
    show Steps p.tables e below (T1.setTop (mkF m 6 #[.val (.ref a1), .val (.int p1)] [(.int p1), (.ref a1)])) _
    refine st2 _ ?_
    show Steps p.tables e below (T2.setTop (mkF m 9 #[.val (.ref a1), .val (.int p1)] [])) _
    exact X2.returnOut hx Bd.returns (hb hby own_d_jdk_33_23_9) hr
  ·
    show Q_rmII Z a1 p1 h0 n0 (_) T2.heap (_)
    rw [eh2]
    have c4 := (E1.wr W2)
    exact ⟨rfl, N3, Kp3, c4, Fw2⟩
theorem own_d_jdk_33_22_0 : decode jdk_33_method_22_code 0 = .ok (.iload_n 0, 1) := by decide +kernel
theorem own_d_jdk_33_22_1 : decode jdk_33_method_22_code 1 = .ok (.bipush (-128), 2) := by decide +kernel
theorem own_d_jdk_33_22_3 : decode jdk_33_method_22_code 3 = .ok (.if_icmp .lt 20, 3) := by decide +kernel
theorem own_d_jdk_33_22_23 : decode jdk_33_method_22_code 23 = .ok (.new 1, 3) := by decide +kernel
theorem own_d_jdk_33_22_26 : decode jdk_33_method_22_code 26 = .ok (.dup, 1) := by decide +kernel
theorem own_d_jdk_33_22_27 : decode jdk_33_method_22_code 27 = .ok (.iload_n 0, 1) := by decide +kernel
theorem own_d_jdk_33_22_28 : decode jdk_33_method_22_code 28 = .ok (.invokespecial 199, 3) := by decide +kernel
theorem own_pd1 : parseMethodDescriptor "(I)V" = some ⟨[.int], none⟩ := by decide +kernel
theorem own_d_jdk_33_22_31 : decode jdk_33_method_22_code 31 = .ok (.areturn, 1) := by decide +kernel
theorem own_d_jdk_33_22_6 : decode jdk_33_method_22_code 6 = .ok (.iload_n 0, 1) := by decide +kernel
theorem own_d_jdk_33_22_7 : decode jdk_33_method_22_code 7 = .ok (.getstatic 191, 3) := by decide +kernel
theorem own_d_jdk_33_22_10 : decode jdk_33_method_22_code 10 = .ok (.if_icmp .gt 13, 3) := by decide +kernel
theorem own_d_jdk_33_22_13 : decode jdk_33_method_22_code 13 = .ok (.getstatic 195, 3) := by decide +kernel
theorem own_d_jdk_33_22_16 : decode jdk_33_method_22_code 16 = .ok (.iload_n 0, 1) := by decide +kernel
theorem own_d_jdk_33_22_17 : decode jdk_33_method_22_code 17 = .ok (.sipush 128, 3) := by decide +kernel
theorem own_d_jdk_33_22_20 : decode jdk_33_method_22_code 20 = .ok (.iadd, 1) := by decide +kernel
theorem own_d_jdk_33_22_21 : decode jdk_33_method_22_code 21 = .ok (.aaload, 1) := by decide +kernel
theorem own_d_jdk_33_22_22 : decode jdk_33_method_22_code 22 = .ok (.areturn, 1) := by decide +kernel
theorem ef_rmVO (m : MethodId) (p1 : Int32) : entryFrame m #[(.int p1)] 1 = mkF m 0 #[.val (.int p1)] [] := by first | (simp [entryFrame, mkF, argsToLocals, Value.category]; done) | rfl
def Q_rmVO (Z : State) (p1 : Int32) (ca : Addr) (cc : Cell) (h0 : Heap) (n0 : Nat) (v : Option Value) (h : Heap) (L : List Loc) : Prop := ∃ b, v = some (.ref b) ∧ Fr n0 L ∧ Keep h0 h [] ∧ Exa Z h b "java/lang/Integer" ∧ Fld Z h b "java/lang/Integer" "value" "I" (.int p1)
set_option maxRecDepth 65536 in
set_option maxHeartbeats 40000000 in
theorem rmVO (l : Launch) (Z : State) (a0 : Array Value) (hw : ∀ d ∈ tables_1, d.before a0 Z = true) (ws : List Jvm.Cond) (p1 : Int32) (ca : Addr) (cc : Cell) (h0 : Heap) (n0 : Nat) (Z0 : n0 ≤ h0.size) (SH : Sta Z h0 "java/lang/Integer$IntegerCache" "high" "I" (.int (127 : Int32))) (SC : Sta Z h0 "java/lang/Integer$IntegerCache" "cache" "[Ljava/lang/Integer;" (.ref ca)) (BX : Bxs Z ca cc "java/lang/Integer" "I" 256 (fun j => .int (j - 128))) (O0 : Old Z n0 h0) :
    MetFree l (⟨"java/lang/Integer", "valueOf", "(I)Ljava/lang/Integer;"⟩ : MethodName) (head1 (Jvm.Cond.code (⟨"java/lang/Integer", "valueOf", "(I)Ljava/lang/Integer;"⟩ : MethodName) jdk_33_method_22_code 1 (some (.object "java/lang/Integer")) :: ws) ({ frames := 3, cells := 1, slots := 1, locals := 38 } : Room)) (fun a U => a = #[(.int p1)] ∧ Z.Warmed39 U.vm ∧ U.heap = h0) (fun _ _ _ _ _ => True) (fun _ U o U' => ∃ v L, o = .returned v ∧ Q_rmVO Z p1 ca cc h0 n0 (v) U'.heap (L) ∧ FrameEnd U o U' L 1 1) := by
  refine MetFree.of_bodySF (plainFor_of_name own_pn1) hisR ?_
  intro p e s m args below meth c s₁ Bd hml0 hP hK
  obtain ⟨rfl, hZ, hh⟩ := hP
  have hx := Bd.exec
  have hby := Bd.bytes
  have hml : c.maxLocals = 1 := hml0
  have hown : s.vm.findClass "java/lang/Integer" = some m.cls := findClass_of_methodNamed Bd.named
  have hnm := (name_of_methodNamed Bd.named Bd.method).1
  have X0 : Stand p l e ({ frames := 3, cells := 1, slots := 1, locals := 38 } : Room) s m #[(.int p1)] below meth c s₁ [] 0 0 := Stand.of_body Bd
  have e0 : s₁.heap = h0 := by rw [← hh, Bd.state]; rfl
  have N0 := Fr.nil n0
  have pre0 : ∀ tgt, Steps p.tables e below (s₁.setTop (mkF m 0 #[.val (.int p1)] [])) tgt → Steps p.tables e below (s₁.setTop (entryFrame m #[(.int p1)] 1)) tgt := fun tgt k => castTop (ef_rmVO m p1) k
  have pre1 : ∀ tgt, Steps p.tables e below (s₁.setTop (mkF m 3 #[.val (.int p1)] [(.int (-128 : Int32)), (.int p1)])) tgt → Steps p.tables e below (s₁.setTop (entryFrame m #[(.int p1)] 1)) tgt := fun tgt kt_ => by
    refine pre0 _ ?_
    show Steps p.tables e below (s₁.setTop (mkF m 0 #[.val (.int p1)] [])) _
    refine XS.iloadN X0.here hx rfl (hb hby own_d_jdk_33_22_0) rfl ?_
    show Steps p.tables e below (s₁.setTop (mkF m 1 #[.val (.int p1)] [(.int p1)])) _
    refine XS.bipush X0.here hx rfl (hb hby own_d_jdk_33_22_1) ?_
    show Steps p.tables e below (s₁.setTop (mkF m 3 #[.val (.int p1)] [(.int (-128 : Int32)), (.int p1)])) _
    exact kt_
  rcases Decidable.em (p1 < (-128 : Int32)) with hc3_2 | hc3_2
  ·
    obtain ⟨T3, h3, X3, eh3, Ee3, A3, D3, U3, st3⟩ := newO X0 hx hZ hown (hw _ (List.mem_of_getElem? (i := 63) rfl)) (hw _ (List.mem_of_getElem? (i := 64) rfl)) (hw _ (List.mem_of_getElem? (i := 33) rfl)) e0 (g := (mkF m 23 #[.val (.int p1)] [])) rfl (hb hby own_d_jdk_33_22_23) (by decide) (by decide)
    obtain ⟨b3, g3⟩ : ∃ z, z = h0.size := ⟨_, rfl⟩
    rw [← g3] at A3 D3 st3
    have gf_b3 : n0 ≤ b3 := Nat.le_trans Z0 (Nat.le_of_eq g3.symm)
    have sz_b3 : h0.size ≤ b3 := Nat.le_trans (Keep.refl h0 []).1 (Nat.le_of_eq g3.symm)
    have Zs4 : n0 ≤ h3.size := Nat.le_trans Z0 Ee3.1
    have O4 := O0.ext Ee3
    have Kp4 : Keep h0 h3 [] := (Keep.refl h0 []).ext Ee3
    have F_value_b3 : Fld Z h3 b3 "java/lang/Integer" "value" "I" (.int (0 : Int32)) := D3 (Or.inr (hw _ (List.mem_of_getElem? (i := 56) rfl))) (ty := .int) (by decide)
    obtain ⟨_, _, ⟨T5, L5, k5, n5⟩, -, X5, ⟨Lc5, hQ5, l5, y5, z5⟩, st5⟩ := X3.specialBack hx (y := (⟨"java/lang/Integer", "<init>", "(I)V"⟩ : MethodName)) rfl hown (mvT hZ (hw _ (List.mem_of_getElem? (i := 65) rfl))) (mvT hZ (hw _ (List.mem_of_getElem? (i := 66) rfl))) (mvT hZ (hw _ (List.mem_of_getElem? (i := 67) rfl))) (by decide) (backOf (W := 1) (rmII l Z a0 hw [] b3 p1 h3 n0 Zs4 A3 F_value_b3 gf_b3) hZ (hw _ (List.mem_of_getElem? (i := 67) rfl)) (hw _ (List.mem_of_getElem? (i := 33) rfl)) (by decide) (by decide)) (g := (mkF m 28 #[.val (.int p1)] [(.int p1), (.ref b3), (.ref b3)])) rfl (by rw [hml]; rfl) (Steps.refl _) (a := b3) (argsL := [(.int p1)]) (rest := [(.ref b3)]) (lenOf own_pd1 rfl) rfl (by show 2 * 0 + _ ≤ _; exact Nat.le_of_eq rfl) (hb hby own_d_jdk_33_22_28) (fun _ _ => ⟨rfl, eh3, (by decide : 1 + 0 ≤ _), (by decide : 1 + 0 ≤ _)⟩)
    dsimp only [Pt.U, Pt.locs, Pt.cells, Pt.slots] at X5 l5 y5 z5 st5 hQ5
    subst l5 y5 z5
    obtain ⟨rfl, N5q, K5, A5, F5⟩ := hQ5
    have N5 := Fr.app N0 N5q
    have Zs6 : n0 ≤ T5.heap.size := Nat.le_trans Zs4 K5.1
    have O6 := O4.keep K5 (allS gf_b3 all0)
    have Kp6 : Keep h0 T5.heap [] := Kp4.trans K5 (allS (Or.inr sz_b3) all0)
    obtain ⟨fs, hr, hrun, hended, hW, hsame⟩ := X5.leave (v := some (.ref b3)) (fun h => by rw [Bd.returns] at h; cases h)
    refine ⟨_, _, pre1 _ ?_, hrun, hended, _, _, rfl, ?_, ⟨_, rfl⟩, hW, hsame.mono (by decide) (by decide)⟩
    ·
      show Steps p.tables e below (s₁.setTop (mkF m 3 #[.val (.int p1)] [(.int (-128 : Int32)), (.int p1)])) _
      refine XS.icmpYes X0.here hx rfl (pc0 := 3) (pc' := 23) rfl (hb hby own_d_jdk_33_22_3) rfl (tlt hc3_2).1 (by decide) (by decide) ?_
      show Steps p.tables e below (s₁.setTop (mkF m 23 #[.val (.int p1)] [])) _
      refine st3 _ ?_
      show Steps p.tables e below (T3.setTop (mkF m 26 #[.val (.int p1)] [(.ref b3)])) _
      refine XS.dup X3.here hx rfl (hb hby own_d_jdk_33_22_26) rfl rfl ?_
      show Steps p.tables e below (T3.setTop (mkF m 27 #[.val (.int p1)] [(.ref b3), (.ref b3)])) _
      refine XS.iloadN X3.here hx rfl (hb hby own_d_jdk_33_22_27) rfl ?_
      show Steps p.tables e below (T3.setTop (mkF m 28 #[.val (.int p1)] [(.int p1), (.ref b3), (.ref b3)])) _
      refine st5.trans ?_
      show Steps p.tables e below (T5.setTop (mkF m 31 #[.val (.int p1)] [(.ref b3)])) _
      jvm_step X5.here [X5.here.top, hx, (hb hby own_d_jdk_33_22_31), X5.method', Bd.returns, Value.isRef, FieldType.isReference]
      first | (intro acts; rw [hr _ acts rfl rfl rfl]) | rw [hr _ _ rfl rfl rfl]
      exact Steps.refl _
    ·
      show Q_rmVO Z p1 ca cc h0 n0 (_) T5.heap (_)
      exact ⟨b3, rfl, N5, Kp6, A5, F5⟩
  ·
    obtain ⟨T7, X7, eh7, st7⟩ := getS2 X0 hx hZ hown (host := "") (Or.inl (hw _ (List.mem_of_getElem? (i := 35) rfl))) Via.refl e0 SH (g := (mkF m 7 #[.val (.int p1)] [(.int p1)])) rfl (hb hby own_d_jdk_33_22_7)
    have pre8 : ∀ tgt, Steps p.tables e below (T7.setTop (mkF m 10 #[.val (.int p1)] [(.int (127 : Int32)), (.int p1)])) tgt → Steps p.tables e below (s₁.setTop (entryFrame m #[(.int p1)] 1)) tgt := fun tgt kt_ => by
      refine pre1 _ ?_
      show Steps p.tables e below (s₁.setTop (mkF m 3 #[.val (.int p1)] [(.int (-128 : Int32)), (.int p1)])) _
      refine XS.icmpNo X0.here hx rfl (hb hby own_d_jdk_33_22_3) rfl (flt hc3_2).1 ?_
      show Steps p.tables e below (s₁.setTop (mkF m 6 #[.val (.int p1)] [])) _
      refine XS.iloadN X0.here hx rfl (hb hby own_d_jdk_33_22_6) rfl ?_
      show Steps p.tables e below (s₁.setTop (mkF m 7 #[.val (.int p1)] [(.int p1)])) _
      refine st7 _ ?_
      show Steps p.tables e below (T7.setTop (mkF m 10 #[.val (.int p1)] [(.int (127 : Int32)), (.int p1)])) _
      exact kt_
    rcases Decidable.em ((127 : Int32) < p1) with hc10_9 | hc10_9
    ·
      obtain ⟨T10, h10, X10, eh10, Ee10, A10, D10, U10, st10⟩ := newO X7 hx hZ hown (hw _ (List.mem_of_getElem? (i := 63) rfl)) (hw _ (List.mem_of_getElem? (i := 64) rfl)) (hw _ (List.mem_of_getElem? (i := 33) rfl)) eh7 (g := (mkF m 23 #[.val (.int p1)] [])) rfl (hb hby own_d_jdk_33_22_23) (by decide) (by decide)
      obtain ⟨b10, g10⟩ : ∃ z, z = h0.size := ⟨_, rfl⟩
      rw [← g10] at A10 D10 st10
      have gf_b10 : n0 ≤ b10 := Nat.le_trans Z0 (Nat.le_of_eq g10.symm)
      have sz_b10 : h0.size ≤ b10 := Nat.le_trans (Keep.refl h0 []).1 (Nat.le_of_eq g10.symm)
      have Zs11 : n0 ≤ h10.size := Nat.le_trans Z0 Ee10.1
      have O11 := O0.ext Ee10
      have Kp11 : Keep h0 h10 [] := (Keep.refl h0 []).ext Ee10
      have F_value_b10 : Fld Z h10 b10 "java/lang/Integer" "value" "I" (.int (0 : Int32)) := D10 (Or.inr (hw _ (List.mem_of_getElem? (i := 56) rfl))) (ty := .int) (by decide)
      obtain ⟨_, _, ⟨T12, L12, k12, n12⟩, -, X12, ⟨Lc12, hQ12, l12, y12, z12⟩, st12⟩ := X10.specialBack hx (y := (⟨"java/lang/Integer", "<init>", "(I)V"⟩ : MethodName)) rfl hown (mvT hZ (hw _ (List.mem_of_getElem? (i := 65) rfl))) (mvT hZ (hw _ (List.mem_of_getElem? (i := 66) rfl))) (mvT hZ (hw _ (List.mem_of_getElem? (i := 67) rfl))) (by decide) (backOf (W := 1) (rmII l Z a0 hw [] b10 p1 h10 n0 Zs11 A10 F_value_b10 gf_b10) hZ (hw _ (List.mem_of_getElem? (i := 67) rfl)) (hw _ (List.mem_of_getElem? (i := 33) rfl)) (by decide) (by decide)) (g := (mkF m 28 #[.val (.int p1)] [(.int p1), (.ref b10), (.ref b10)])) rfl (by rw [hml]; rfl) (Steps.refl _) (a := b10) (argsL := [(.int p1)]) (rest := [(.ref b10)]) (lenOf own_pd1 rfl) rfl (by show 2 * 0 + _ ≤ _; exact Nat.le_of_eq rfl) (hb hby own_d_jdk_33_22_28) (fun _ _ => ⟨rfl, eh10, (by decide : 1 + 0 ≤ _), (by decide : 1 + 0 ≤ _)⟩)
      dsimp only [Pt.U, Pt.locs, Pt.cells, Pt.slots] at X12 l12 y12 z12 st12 hQ12
      subst l12 y12 z12
      obtain ⟨rfl, N12q, K12, A12, F12⟩ := hQ12
      have N12 := Fr.app N0 N12q
      have Zs13 : n0 ≤ T12.heap.size := Nat.le_trans Zs11 K12.1
      have O13 := O11.keep K12 (allS gf_b10 all0)
      have Kp13 : Keep h0 T12.heap [] := Kp11.trans K12 (allS (Or.inr sz_b10) all0)
      obtain ⟨fs, hr, hrun, hended, hW, hsame⟩ := X12.leave (v := some (.ref b10)) (fun h => by rw [Bd.returns] at h; cases h)
      refine ⟨_, _, pre8 _ ?_, hrun, hended, _, _, rfl, ?_, ⟨_, rfl⟩, hW, hsame.mono (by decide) (by decide)⟩
      ·
        show Steps p.tables e below (T7.setTop (mkF m 10 #[.val (.int p1)] [(.int (127 : Int32)), (.int p1)])) _
        refine XS.icmpYes X7.here hx rfl (pc0 := 10) (pc' := 23) rfl (hb hby own_d_jdk_33_22_10) rfl (tlt hc10_9).2.2.1 (by decide) (by decide) ?_
        show Steps p.tables e below (T7.setTop (mkF m 23 #[.val (.int p1)] [])) _
        refine st10 _ ?_
        show Steps p.tables e below (T10.setTop (mkF m 26 #[.val (.int p1)] [(.ref b10)])) _
        refine XS.dup X10.here hx rfl (hb hby own_d_jdk_33_22_26) rfl rfl ?_
        show Steps p.tables e below (T10.setTop (mkF m 27 #[.val (.int p1)] [(.ref b10), (.ref b10)])) _
        refine XS.iloadN X10.here hx rfl (hb hby own_d_jdk_33_22_27) rfl ?_
        show Steps p.tables e below (T10.setTop (mkF m 28 #[.val (.int p1)] [(.int p1), (.ref b10), (.ref b10)])) _
        refine st12.trans ?_
        show Steps p.tables e below (T12.setTop (mkF m 31 #[.val (.int p1)] [(.ref b10)])) _
        jvm_step X12.here [X12.here.top, hx, (hb hby own_d_jdk_33_22_31), X12.method', Bd.returns, Value.isRef, FieldType.isReference]
        first | (intro acts; rw [hr _ acts rfl rfl rfl]) | rw [hr _ _ rfl rfl rfl]
        exact Steps.refl _
      ·
        show Q_rmVO Z p1 ca cc h0 n0 (_) T12.heap (_)
        exact ⟨b10, rfl, N12, Kp13, A12, F12⟩
    ·
      obtain ⟨T14, X14, eh14, st14⟩ := getS2 X7 hx hZ hown (host := "") (Or.inl (hw _ (List.mem_of_getElem? (i := 37) rfl))) Via.refl eh7 SC (g := (mkF m 13 #[.val (.int p1)] [])) rfl (hb hby own_d_jdk_33_22_13)
      have hin := own_cin BX.2.1 hc3_2 hc10_9
      obtain ⟨bb, hat, EB, FB⟩ := BX.2.2.2 _ hin
      simp only [own_sub128] at FB
      have Ac := BX.1.ext O0.2
      have EB' := EB.ext O0.2
      have FB' := FB.ext O0.2
      obtain ⟨fs, hr, hrun, hended, hW, hsame⟩ := X14.leave (v := some (.ref bb)) (fun h => by rw [Bd.returns] at h; cases h)
      refine ⟨_, _, pre8 _ ?_, hrun, hended, _, _, rfl, ?_, ⟨_, rfl⟩, hW, hsame.mono (by decide) (by decide)⟩
      ·
        show Steps p.tables e below (T7.setTop (mkF m 10 #[.val (.int p1)] [(.int (127 : Int32)), (.int p1)])) _
        refine XS.icmpNo X7.here hx rfl (hb hby own_d_jdk_33_22_10) rfl (flt hc10_9).2.2.1 ?_
        show Steps p.tables e below (T7.setTop (mkF m 13 #[.val (.int p1)] [])) _
        refine st14 _ ?_
        show Steps p.tables e below (T14.setTop (mkF m 16 #[.val (.int p1)] [(.ref ca)])) _
        refine XS.iloadN X14.here hx rfl (hb hby own_d_jdk_33_22_16) rfl ?_
        show Steps p.tables e below (T14.setTop (mkF m 17 #[.val (.int p1)] [(.int p1), (.ref ca)])) _
        refine XS.sipush X14.here hx rfl (hb hby own_d_jdk_33_22_17) ?_
        show Steps p.tables e below (T14.setTop (mkF m 20 #[.val (.int p1)] [(.int (128 : Int32)), (.int p1), (.ref ca)])) _
        refine XS.iadd X14.here hx rfl (hb hby own_d_jdk_33_22_20) rfl ?_
        show Steps p.tables e below (T14.setTop (mkF m 21 #[.val (.int p1)] [(.int (p1 + (128 : Int32))), (.ref ca)])) _
        refine X14.aaload hx (j := (p1 + (128 : Int32))) (v := (.ref bb)) (by rw [eh14]; exact Ac.1) (State.isArrayOf_alike hZ.alike Ac.2.1) rfl Ac.2.2 hin hat (g := (mkF m 21 #[.val (.int p1)] [(.int (p1 + (128 : Int32))), (.ref ca)])) rfl rfl (hb hby own_d_jdk_33_22_21) _ ?_
        show Steps p.tables e below (T14.setTop (mkF m 22 #[.val (.int p1)] [(.ref bb)])) _
        jvm_step X14.here [X14.here.top, hx, (hb hby own_d_jdk_33_22_22), X14.method', Bd.returns, Value.isRef, FieldType.isReference]
        first | (intro acts; rw [hr _ acts rfl rfl rfl]) | rw [hr _ _ rfl rfl rfl]
        exact Steps.refl _
      ·
        show Q_rmVO Z p1 ca cc h0 n0 (_) T14.heap (_)
        rw [eh14]
        exact ⟨bb, rfl, N0, (Keep.refl h0 []), EB', FB'⟩
theorem own_d_jdk_22_1_0 : decode jdk_22_method_1_code 0 = .ok (.aload_n 0, 1) := by decide +kernel
theorem own_d_jdk_22_1_1 : decode jdk_22_method_1_code 1 = .ok (.invokespecial 1, 3) := by decide +kernel
theorem own_d_jdk_22_1_4 : decode jdk_22_method_1_code 4 = .ok (.return_, 1) := by decide +kernel
theorem own_pn2 : plainName "java/util/AbstractCollection" = true := by first | (simp [plainName, overriddenIn]; done) | decide +kernel
theorem ef_rmAC (m : MethodId) (a1 : Addr) : entryFrame m #[(.ref a1)] 1 = mkF m 0 #[.val (.ref a1)] [] := by first | (simp [entryFrame, mkF, argsToLocals, Value.category]; done) | rfl
def Q_rmAC (Z : State) (a1 : Addr) (h0 : Heap) (n0 : Nat) (v : Option Value) (h : Heap) (L : List Loc) : Prop := v = none ∧ Fr n0 L ∧ h = h0
set_option maxRecDepth 65536 in
set_option maxHeartbeats 40000000 in
theorem rmAC (l : Launch) (Z : State) (a0 : Array Value) (hw : ∀ d ∈ tables_1, d.before a0 Z = true) (ws : List Jvm.Cond) (a1 : Addr) (h0 : Heap) (n0 : Nat) (Z0 : n0 ≤ h0.size)  :
    MetFree l (⟨"java/util/AbstractCollection", "<init>", "()V"⟩ : MethodName) (head1 (Jvm.Cond.code (⟨"java/util/AbstractCollection", "<init>", "()V"⟩ : MethodName) jdk_22_method_1_code 1 none :: ws) ({ frames := 1, cells := 0, slots := 0, locals := 12 } : Room)) (fun a U => a = #[(.ref a1)] ∧ Z.Warmed39 U.vm ∧ U.heap = h0) (fun _ _ _ _ _ => True) (fun _ U o U' => ∃ v L, o = .returned v ∧ Q_rmAC Z a1 h0 n0 (v) U'.heap (L) ∧ FrameEnd U o U' L 0 0) := by
  refine MetFree.of_bodySF (plainFor_of_name own_pn2) hisR ?_
  intro p e s m args below meth c s₁ Bd hml0 hP hK
  obtain ⟨rfl, hZ, hh⟩ := hP
  have hx := Bd.exec
  have hby := Bd.bytes
  have hml : c.maxLocals = 1 := hml0
  have hown : s.vm.findClass "java/util/AbstractCollection" = some m.cls := findClass_of_methodNamed Bd.named
  have hnm := (name_of_methodNamed Bd.named Bd.method).1
  have X0 : Stand p l e ({ frames := 1, cells := 0, slots := 0, locals := 12 } : Room) s m #[(.ref a1)] below meth c s₁ [] 0 0 := Stand.of_body Bd
  have e0 : s₁.heap = h0 := by rw [← hh, Bd.state]; rfl
  have N0 := Fr.nil n0
  have pre0 : ∀ tgt, Steps p.tables e below (s₁.setTop (mkF m 0 #[.val (.ref a1)] [])) tgt → Steps p.tables e below (s₁.setTop (entryFrame m #[(.ref a1)] 1)) tgt := fun tgt k => castTop (ef_rmAC m a1) k
  obtain ⟨T1, X1, eh1, st1⟩ := initO X0 hx hZ hown (hw _ (List.mem_of_getElem? (i := 17) rfl)) (hw _ (List.mem_of_getElem? (i := 18) rfl)) (hw _ (List.mem_of_getElem? (i := 19) rfl)) e0 (g := (mkF m 1 #[.val (.ref a1)] [(.ref a1)])) rfl (by rw [hml]; rfl) rfl (hb hby own_d_jdk_22_1_1) (by decide) (W := 0) (by show 2 * 0 + _ ≤ _; exact Nat.le_of_eq rfl) (by decide)
  obtain ⟨fs, hr, hrun, hended, hW, hsame⟩ := X1.leave (v := none) (fun _ => rfl)
  refine ⟨_, _, pre0 _ ?_, hrun, hended, _, _, rfl, ?_, ⟨_, rfl⟩, hW, hsame.mono (by decide) (by decide)⟩
  ·
    show Steps p.tables e below (s₁.setTop (mkF m 0 #[.val (.ref a1)] [])) _
    refine XS.aloadN X0.here hx rfl (hb hby own_d_jdk_22_1_0) rfl rfl ?_
    show Steps p.tables e below (s₁.setTop (mkF m 1 #[.val (.ref a1)] [(.ref a1)])) _
    refine st1 _ ?_
    show Steps p.tables e below (T1.setTop (mkF m 4 #[.val (.ref a1)] [])) _
    exact X1.returnOut hx Bd.returns (hb hby own_d_jdk_22_1_4) hr
  ·
    show Q_rmAC Z a1 h0 n0 (_) T1.heap (_)
    rw [eh1]
    exact ⟨rfl, N0, rfl⟩
theorem own_d_jdk_91_1_0 : decode jdk_91_method_1_code 0 = .ok (.aload_n 0, 1) := by decide +kernel
theorem own_d_jdk_91_1_1 : decode jdk_91_method_1_code 1 = .ok (.invokespecial 1, 3) := by decide +kernel
theorem own_d_jdk_91_1_4 : decode jdk_91_method_1_code 4 = .ok (.return_, 1) := by decide +kernel
theorem own_pn3 : plainName "java/util/AbstractSet" = true := by first | (simp [plainName, overriddenIn]; done) | decide +kernel
theorem ef_rmAS (m : MethodId) (a1 : Addr) : entryFrame m #[(.ref a1)] 1 = mkF m 0 #[.val (.ref a1)] [] := by first | (simp [entryFrame, mkF, argsToLocals, Value.category]; done) | rfl
def Q_rmAS (Z : State) (a1 : Addr) (h0 : Heap) (n0 : Nat) (v : Option Value) (h : Heap) (L : List Loc) : Prop := v = none ∧ Fr n0 L ∧ h = h0
set_option maxRecDepth 65536 in
set_option maxHeartbeats 40000000 in
theorem rmAS (l : Launch) (Z : State) (a0 : Array Value) (hw : ∀ d ∈ tables_1, d.before a0 Z = true) (ws : List Jvm.Cond) (a1 : Addr) (h0 : Heap) (n0 : Nat) (Z0 : n0 ≤ h0.size)  :
    MetFree l (⟨"java/util/AbstractSet", "<init>", "()V"⟩ : MethodName) (head1 (Jvm.Cond.code (⟨"java/util/AbstractSet", "<init>", "()V"⟩ : MethodName) jdk_91_method_1_code 1 none :: ws) ({ frames := 2, cells := 0, slots := 0, locals := 24 } : Room)) (fun a U => a = #[(.ref a1)] ∧ Z.Warmed39 U.vm ∧ U.heap = h0) (fun _ _ _ _ _ => True) (fun _ U o U' => ∃ v L, o = .returned v ∧ Q_rmAS Z a1 h0 n0 (v) U'.heap (L) ∧ FrameEnd U o U' L 0 0) := by
  refine MetFree.of_bodySF (plainFor_of_name own_pn3) hisR ?_
  intro p e s m args below meth c s₁ Bd hml0 hP hK
  obtain ⟨rfl, hZ, hh⟩ := hP
  have hx := Bd.exec
  have hby := Bd.bytes
  have hml : c.maxLocals = 1 := hml0
  have hown : s.vm.findClass "java/util/AbstractSet" = some m.cls := findClass_of_methodNamed Bd.named
  have hnm := (name_of_methodNamed Bd.named Bd.method).1
  have X0 : Stand p l e ({ frames := 2, cells := 0, slots := 0, locals := 24 } : Room) s m #[(.ref a1)] below meth c s₁ [] 0 0 := Stand.of_body Bd
  have e0 : s₁.heap = h0 := by rw [← hh, Bd.state]; rfl
  have N0 := Fr.nil n0
  have pre0 : ∀ tgt, Steps p.tables e below (s₁.setTop (mkF m 0 #[.val (.ref a1)] [])) tgt → Steps p.tables e below (s₁.setTop (entryFrame m #[(.ref a1)] 1)) tgt := fun tgt k => castTop (ef_rmAS m a1) k
  obtain ⟨_, _, ⟨T1, L1, k1, n1⟩, -, X1, ⟨Lc1, hQ1, l1, y1, z1⟩, st1⟩ := X0.specialBack hx (y := (⟨"java/util/AbstractCollection", "<init>", "()V"⟩ : MethodName)) rfl hown (mvT hZ (hw _ (List.mem_of_getElem? (i := 11) rfl))) (mvT hZ (hw _ (List.mem_of_getElem? (i := 12) rfl))) (mvT hZ (hw _ (List.mem_of_getElem? (i := 16) rfl))) (by decide) (backOf (W := 0) (rmAC l Z a0 hw [] a1 h0 n0 Z0 ) hZ (hw _ (List.mem_of_getElem? (i := 16) rfl)) (hw _ (List.mem_of_getElem? (i := 15) rfl)) (by decide) (by decide)) (g := (mkF m 1 #[.val (.ref a1)] [(.ref a1)])) rfl (by rw [hml]; rfl) (Steps.refl _) (a := a1) (argsL := []) (rest := []) (lenOf own_pd0 rfl) rfl (by show 2 * 0 + _ ≤ _; exact Nat.le_of_eq rfl) (hb hby own_d_jdk_91_1_1) (fun _ _ => ⟨rfl, e0, (by decide : 0 + 0 ≤ _), (by decide : 0 + 0 ≤ _)⟩)
  dsimp only [Pt.U, Pt.locs, Pt.cells, Pt.slots] at X1 l1 y1 z1 st1 hQ1
  subst l1 y1 z1
  obtain ⟨rfl, N1q, eq1⟩ := hQ1
  have N1 := Fr.app N0 N1q
  obtain ⟨fs, hr, hrun, hended, hW, hsame⟩ := X1.leave (v := none) (fun _ => rfl)
  refine ⟨_, _, pre0 _ ?_, hrun, hended, _, _, rfl, ?_, ⟨_, rfl⟩, hW, hsame.mono (by decide) (by decide)⟩
  ·
    show Steps p.tables e below (s₁.setTop (mkF m 0 #[.val (.ref a1)] [])) _
    refine XS.aloadN X0.here hx rfl (hb hby own_d_jdk_91_1_0) rfl rfl ?_
    show Steps p.tables e below (s₁.setTop (mkF m 1 #[.val (.ref a1)] [(.ref a1)])) _
    refine st1.trans ?_
    show Steps p.tables e below (T1.setTop (mkF m 4 #[.val (.ref a1)] [])) _
    exact X1.returnOut hx Bd.returns (hb hby own_d_jdk_91_1_4) hr
  ·
    show Q_rmAS Z a1 h0 n0 (_) T1.heap (_)
    rw [eq1]
    exact ⟨rfl, N1, rfl⟩
theorem own_d_prog_31_1_0 : decode prog_31_method_1_code 0 = .ok (.aload_n 0, 1) := by decide +kernel
theorem own_d_prog_31_1_1 : decode prog_31_method_1_code 1 = .ok (.invokespecial 3, 3) := by decide +kernel
theorem own_d_prog_31_1_4 : decode prog_31_method_1_code 4 = .ok (.aload_n 0, 1) := by decide +kernel
theorem own_d_prog_31_1_5 : decode prog_31_method_1_code 5 = .ok (.getstatic 9, 3) := by decide +kernel
theorem own_d_prog_31_1_8 : decode prog_31_method_1_code 8 = .ok (.putfield 15, 3) := by decide +kernel
theorem own_d_prog_31_1_11 : decode prog_31_method_1_code 11 = .ok (.return_, 1) := by decide +kernel
theorem own_pn4 : plainName "com/example/dramatis/dramatis/analysis/RoleGraph$Targets" = true := by first | (simp [plainName, overriddenIn]; done) | decide +kernel
theorem ef_rmTI (m : MethodId) (a1 : Addr) : entryFrame m #[(.ref a1)] 1 = mkF m 0 #[.val (.ref a1)] [] := by first | (simp [entryFrame, mkF, argsToLocals, Value.category]; done) | rfl
def Q_rmTI (Z : State) (a1 : Addr) (nw : Addr) (h0 : Heap) (n0 : Nat) (v : Option Value) (h : Heap) (L : List Loc) : Prop := v = none ∧ Fr n0 L ∧ Keep h0 h [a1] ∧ Exa Z h a1 "com/example/dramatis/dramatis/analysis/RoleGraph$Targets" ∧ Fld Z h a1 "com/example/dramatis/dramatis/analysis/RoleGraph$Targets" "low" "J" (.long (0 : Int64)) ∧ Fld Z h a1 "com/example/dramatis/dramatis/analysis/RoleGraph$Targets" "high" "[J" (.ref nw) ∧ Fld Z h a1 "com/example/dramatis/dramatis/analysis/RoleGraph$Targets" "size" "I" (.int (0 : Int32))
set_option maxRecDepth 65536 in
set_option maxHeartbeats 40000000 in
theorem rmTI (l : Launch) (Z : State) (a0 : Array Value) (hw : ∀ d ∈ tables_1, d.before a0 Z = true) (ws : List Jvm.Cond) (a1 : Addr) (nw : Addr) (h0 : Heap) (n0 : Nat) (Z0 : n0 ≤ h0.size) (E1 : Exa Z h0 a1 "com/example/dramatis/dramatis/analysis/RoleGraph$Targets") (F1 : Fld Z h0 a1 "com/example/dramatis/dramatis/analysis/RoleGraph$Targets" "low" "J" (.long (0 : Int64))) (F2 : Fld Z h0 a1 "com/example/dramatis/dramatis/analysis/RoleGraph$Targets" "high" "[J" .null) (F3 : Fld Z h0 a1 "com/example/dramatis/dramatis/analysis/RoleGraph$Targets" "size" "I" (.int (0 : Int32))) (g1 : n0 ≤ a1) (SN : Sta Z h0 "com/example/dramatis/dramatis/analysis/RoleGraph$Targets" "NO_WORDS" "[J" (.ref nw)) :
    MetFree l (⟨"com/example/dramatis/dramatis/analysis/RoleGraph$Targets", "<init>", "()V"⟩ : MethodName) (head1 (Jvm.Cond.code (⟨"com/example/dramatis/dramatis/analysis/RoleGraph$Targets", "<init>", "()V"⟩ : MethodName) prog_31_method_1_code 1 none :: ws) ({ frames := 3, cells := 0, slots := 0, locals := 36 } : Room)) (fun a U => a = #[(.ref a1)] ∧ Z.Warmed39 U.vm ∧ U.heap = h0) (fun _ _ _ _ _ => True) (fun _ U o U' => ∃ v L, o = .returned v ∧ Q_rmTI Z a1 nw h0 n0 (v) U'.heap (L) ∧ FrameEnd U o U' L 0 0) := by
  refine MetFree.of_bodySF (plainFor_of_name own_pn4) hisR ?_
  intro p e s m args below meth c s₁ Bd hml0 hP hK
  obtain ⟨rfl, hZ, hh⟩ := hP
  have hx := Bd.exec
  have hby := Bd.bytes
  have hml : c.maxLocals = 1 := hml0
  have hown : s.vm.findClass "com/example/dramatis/dramatis/analysis/RoleGraph$Targets" = some m.cls := findClass_of_methodNamed Bd.named
  have hnm := (name_of_methodNamed Bd.named Bd.method).1
  have X0 : Stand p l e ({ frames := 3, cells := 0, slots := 0, locals := 36 } : Room) s m #[(.ref a1)] below meth c s₁ [] 0 0 := Stand.of_body Bd
  have e0 : s₁.heap = h0 := by rw [← hh, Bd.state]; rfl
  have N0 := Fr.nil n0
  have pre0 : ∀ tgt, Steps p.tables e below (s₁.setTop (mkF m 0 #[.val (.ref a1)] [])) tgt → Steps p.tables e below (s₁.setTop (entryFrame m #[(.ref a1)] 1)) tgt := fun tgt k => castTop (ef_rmTI m a1) k
  obtain ⟨_, _, ⟨T1, L1, k1, n1⟩, -, X1, ⟨Lc1, hQ1, l1, y1, z1⟩, st1⟩ := X0.specialBack hx (y := (⟨"java/util/AbstractSet", "<init>", "()V"⟩ : MethodName)) rfl hown (mvT hZ (hw _ (List.mem_of_getElem? (i := 6) rfl))) (mvT hZ (hw _ (List.mem_of_getElem? (i := 7) rfl))) (mvT hZ (hw _ (List.mem_of_getElem? (i := 10) rfl))) (by decide) (backOf (W := 0) (rmAS l Z a0 hw [] a1 h0 n0 Z0 ) hZ (hw _ (List.mem_of_getElem? (i := 10) rfl)) (hw _ (List.mem_of_getElem? (i := 9) rfl)) (by decide) (by decide)) (g := (mkF m 1 #[.val (.ref a1)] [(.ref a1)])) rfl (by rw [hml]; rfl) (Steps.refl _) (a := a1) (argsL := []) (rest := []) (lenOf own_pd0 rfl) rfl (by show 2 * 0 + _ ≤ _; exact Nat.le_of_eq rfl) (hb hby own_d_prog_31_1_1) (fun _ _ => ⟨rfl, e0, (by decide : 0 + 0 ≤ _), (by decide : 0 + 0 ≤ _)⟩)
  dsimp only [Pt.U, Pt.locs, Pt.cells, Pt.slots] at X1 l1 y1 z1 st1 hQ1
  subst l1 y1 z1
  obtain ⟨rfl, N1q, eq1⟩ := hQ1
  have N1 := Fr.app N0 N1q
  obtain ⟨T2, X2, eh2, st2⟩ := getS2 X1 hx hZ hown (host := "") (Or.inl (hw _ (List.mem_of_getElem? (i := 20) rfl))) Via.refl eq1 SN (g := (mkF m 5 #[.val (.ref a1)] [(.ref a1)])) rfl (hb hby own_d_prog_31_1_5)
  obtain ⟨T3, h3, X3, eh3, W3, st3⟩ := putF X2 hx hZ hown (host := "") (Or.inl (hw _ (List.mem_of_getElem? (i := 22) rfl))) Via.refl eh2 F2 E1 (Or.inl (hw _ (List.mem_of_getElem? (i := 23) rfl))) (hw _ (List.mem_of_getElem? (i := 1) rfl)) (ty := (.array .long)) (by decide) rfl rfl (g := (mkF m 8 #[.val (.ref a1)] [(.ref nw), (.ref a1)])) rfl rfl (hb hby own_d_prog_31_1_8)
  have Fw3 := F2.same W3
  have Zs4 : n0 ≤ h3.size := Nat.le_trans Z0 (Nat.le_of_eq W3.size.symm)
  have N4 := Fr.snoc X3 N1 g1
  have Kp4 : Keep h0 h3 [a1] := (Keep.refl h0 [a1]).wr W3 (Or.inl (List.mem_of_getElem? (i := 0) rfl))
  obtain ⟨fs, hr, hrun, hended, hW, hsame⟩ := X3.leave (v := none) (fun _ => rfl)
  refine ⟨_, _, pre0 _ ?_, hrun, hended, _, _, rfl, ?_, ⟨_, rfl⟩, hW, hsame.mono (by decide) (by decide)⟩
  ·
    show Steps p.tables e below (s₁.setTop (mkF m 0 #[.val (.ref a1)] [])) _
    refine XS.aloadN X0.here hx rfl (hb hby own_d_prog_31_1_0) rfl rfl ?_
    show Steps p.tables e below (s₁.setTop (mkF m 1 #[.val (.ref a1)] [(.ref a1)])) _
    refine st1.trans ?_
    show Steps p.tables e below (T1.setTop (mkF m 4 #[.val (.ref a1)] [])) _
    refine XS.aloadN X1.here hx rfl (hb hby own_d_prog_31_1_4) rfl rfl ?_
    show Steps p.tables e below (T1.setTop (mkF m 5 #[.val (.ref a1)] [(.ref a1)])) _
    refine st2 _ ?_
    show Steps p.tables e below (T2.setTop (mkF m 8 #[.val (.ref a1)] [(.ref nw), (.ref a1)])) _
    refine st3 _ ?_
    show Steps p.tables e below (T3.setTop (mkF m 11 #[.val (.ref a1)] [])) _
    exact X3.returnOut hx Bd.returns (hb hby own_d_prog_31_1_11) hr
  ·
    show Q_rmTI Z a1 nw h0 n0 (_) T3.heap (_)
    rw [eh3]
    have c5 := (E1.wr W3)
    have c6 := (F1.other W3 (Or.inr (slot_ne (Or.inl (hw _ (List.mem_of_getElem? (i := 62) rfl))) (Or.inl (hw _ (List.mem_of_getElem? (i := 23) rfl))) (by decide) (t := .long) (t' := (.array .long)) (by decide) (by decide))))
    have c7 := (F3.other W3 (Or.inr (slot_ne (Or.inl (hw _ (List.mem_of_getElem? (i := 30) rfl))) (Or.inl (hw _ (List.mem_of_getElem? (i := 23) rfl))) (by decide) (t := .int) (t' := (.array .long)) (by decide) (by decide))))
    exact ⟨rfl, N4, Kp4, c5, c6, Fw3, c7⟩
theorem own_d_jdk_33_27_0 : decode jdk_33_method_27_code 0 = .ok (.aload_n 0, 1) := by decide +kernel
theorem own_d_jdk_33_27_1 : decode jdk_33_method_27_code 1 = .ok (.getfield 205, 3) := by decide +kernel
theorem own_d_jdk_33_27_4 : decode jdk_33_method_27_code 4 = .ok (.ireturn, 1) := by decide +kernel
theorem ef_rmIV (m : MethodId) (a1 : Addr) : entryFrame m #[(.ref a1)] 1 = mkF m 0 #[.val (.ref a1)] [] := by first | (simp [entryFrame, mkF, argsToLocals, Value.category]; done) | rfl
def Q_rmIV (Z : State) (a1 : Addr) (t1 : Int32) (h0 : Heap) (n0 : Nat) (v : Option Value) (h : Heap) (L : List Loc) : Prop := v = some (.int t1) ∧ Fr n0 L ∧ h = h0
set_option maxRecDepth 65536 in
set_option maxHeartbeats 40000000 in
theorem rmIV (l : Launch) (Z : State) (a0 : Array Value) (hw : ∀ d ∈ tables_1, d.before a0 Z = true) (ws : List Jvm.Cond) (a1 : Addr) (t1 : Int32) (h0 : Heap) (n0 : Nat) (Z0 : n0 ≤ h0.size) (F1 : Fld Z h0 a1 "java/lang/Integer" "value" "I" (.int t1)) :
    MetFree l (⟨"java/lang/Integer", "intValue", "()I"⟩ : MethodName) (head1 (Jvm.Cond.code (⟨"java/lang/Integer", "intValue", "()I"⟩ : MethodName) jdk_33_method_27_code 1 (some .int) :: ws) ({ frames := 0, cells := 0, slots := 0, locals := 0 } : Room)) (fun a U => a = #[(.ref a1)] ∧ Z.Warmed39 U.vm ∧ U.heap = h0) (fun _ _ _ _ _ => True) (fun _ U o U' => ∃ v L, o = .returned v ∧ Q_rmIV Z a1 t1 h0 n0 (v) U'.heap (L) ∧ FrameEnd U o U' L 0 0) := by
  refine MetFree.of_bodySF (plainFor_of_name own_pn1) hisR ?_
  intro p e s m args below meth c s₁ Bd hml0 hP hK
  obtain ⟨rfl, hZ, hh⟩ := hP
  have hx := Bd.exec
  have hby := Bd.bytes
  have hml : c.maxLocals = 1 := hml0
  have hown : s.vm.findClass "java/lang/Integer" = some m.cls := findClass_of_methodNamed Bd.named
  have hnm := (name_of_methodNamed Bd.named Bd.method).1
  have X0 : Stand p l e ({ frames := 0, cells := 0, slots := 0, locals := 0 } : Room) s m #[(.ref a1)] below meth c s₁ [] 0 0 := Stand.of_body Bd
  have e0 : s₁.heap = h0 := by rw [← hh, Bd.state]; rfl
  have N0 := Fr.nil n0
  have pre0 : ∀ tgt, Steps p.tables e below (s₁.setTop (mkF m 0 #[.val (.ref a1)] [])) tgt → Steps p.tables e below (s₁.setTop (entryFrame m #[(.ref a1)] 1)) tgt := fun tgt k => castTop (ef_rmIV m a1) k
  obtain ⟨T1, X1, eh1, st1⟩ := getF X0 hx hZ hown (host := "") (Or.inl (hw _ (List.mem_of_getElem? (i := 55) rfl))) Via.refl e0 F1 (g := (mkF m 1 #[.val (.ref a1)] [(.ref a1)])) rfl rfl (hb hby own_d_jdk_33_27_1)
  obtain ⟨fs, hr, hrun, hended, hW, hsame⟩ := X1.leave (v := some (.int t1)) (fun h => by rw [Bd.returns] at h; cases h)
  refine ⟨_, _, pre0 _ ?_, hrun, hended, _, _, rfl, ?_, ⟨_, rfl⟩, hW, hsame.mono (by decide) (by decide)⟩
  ·
    show Steps p.tables e below (s₁.setTop (mkF m 0 #[.val (.ref a1)] [])) _
    refine XS.aloadN X0.here hx rfl (hb hby own_d_jdk_33_27_0) rfl rfl ?_
    show Steps p.tables e below (s₁.setTop (mkF m 1 #[.val (.ref a1)] [(.ref a1)])) _
    refine st1 _ ?_
    show Steps p.tables e below (T1.setTop (mkF m 4 #[.val (.ref a1)] [(.int t1)])) _
    exact retI X1 hx Bd.returns (hb hby own_d_jdk_33_27_4) hr
  ·
    show Q_rmIV Z a1 t1 h0 n0 (_) T1.heap (_)
    rw [eh1]
    exact ⟨rfl, N0, rfl⟩
theorem own_ge {w z : Int32} (h : ¬ w < z) (h0 : ¬ w < 0) (hz : ¬ z < 0) : z.toNatClampNeg ≤ w.toNatClampNeg := by
  have a := nat_of h0
  have b := nat_of hz
  rw [Int32.lt_iff_toInt_lt] at h
  omega
theorem own_btr1 {x : Int64} {k : Int32} (h : ¬ lcmpW (x &&& ((1 : Int64) <<< (k &&& 0x3f).toInt64)) (0 : Int64) = (0 : Int32)) : some (Value.int (1 : Int32)) = some (.int (if own_bt x k = true then 1 else 0)) := by
  rw [if_pos (show own_bt x k = true from decide_eq_true h)]
theorem own_btr0 {x : Int64} {k : Int32} (h : lcmpW (x &&& ((1 : Int64) <<< (k &&& 0x3f).toInt64)) (0 : Int64) = (0 : Int32)) : some (Value.int (0 : Int32)) = some (.int (if own_bt x k = true then 1 else 0)) := by
  rw [if_neg (by rw [show own_bt x k = false from decide_eq_false (fun z => z h)]; decide)]
theorem own_d_prog_31_17_0 : decode prog_31_method_17_code 0 = .ok (.iload_n 1, 1) := by decide +kernel
theorem own_d_prog_31_17_1 : decode prog_31_method_17_code 1 = .ok (.bipush 64, 2) := by decide +kernel
theorem own_d_prog_31_17_3 : decode prog_31_method_17_code 3 = .ok (.if_icmp .ge 22, 3) := by decide +kernel
theorem own_d_prog_31_17_6 : decode prog_31_method_17_code 6 = .ok (.aload_n 0, 1) := by decide +kernel
theorem own_d_prog_31_17_7 : decode prog_31_method_17_code 7 = .ok (.getfield 18, 3) := by decide +kernel
theorem own_d_prog_31_17_10 : decode prog_31_method_17_code 10 = .ok (.lconst 1, 1) := by decide +kernel
theorem own_d_prog_31_17_11 : decode prog_31_method_17_code 11 = .ok (.iload_n 1, 1) := by decide +kernel
theorem own_d_prog_31_17_12 : decode prog_31_method_17_code 12 = .ok (.lshl, 1) := by decide +kernel
theorem own_d_prog_31_17_13 : decode prog_31_method_17_code 13 = .ok (.land, 1) := by decide +kernel
theorem own_d_prog_31_17_14 : decode prog_31_method_17_code 14 = .ok (.lconst 0, 1) := by decide +kernel
theorem own_d_prog_31_17_15 : decode prog_31_method_17_code 15 = .ok (.lcmp, 1) := by decide +kernel
theorem own_d_prog_31_17_16 : decode prog_31_method_17_code 16 = .ok (.ifCond .eq 7, 3) := by decide +kernel
theorem own_d_prog_31_17_23 : decode prog_31_method_17_code 23 = .ok (.iconst 0, 1) := by decide +kernel
theorem own_d_prog_31_17_24 : decode prog_31_method_17_code 24 = .ok (.ireturn, 1) := by decide +kernel
theorem own_d_prog_31_17_19 : decode prog_31_method_17_code 19 = .ok (.iconst 1, 1) := by decide +kernel
theorem own_d_prog_31_17_20 : decode prog_31_method_17_code 20 = .ok (.goto 4, 3) := by decide +kernel
theorem own_d_prog_31_17_25 : decode prog_31_method_17_code 25 = .ok (.iload_n 1, 1) := by decide +kernel
theorem own_d_prog_31_17_26 : decode prog_31_method_17_code 26 = .ok (.bipush 64, 2) := by decide +kernel
theorem own_d_prog_31_17_28 : decode prog_31_method_17_code 28 = .ok (.idiv, 1) := by decide +kernel
theorem own_d_prog_31_17_29 : decode prog_31_method_17_code 29 = .ok (.iconst 1, 1) := by decide +kernel
theorem own_d_prog_31_17_30 : decode prog_31_method_17_code 30 = .ok (.isub, 1) := by decide +kernel
theorem own_d_prog_31_17_31 : decode prog_31_method_17_code 31 = .ok (.istore_n 2, 1) := by decide +kernel
theorem own_d_prog_31_17_32 : decode prog_31_method_17_code 32 = .ok (.iload_n 2, 1) := by decide +kernel
theorem own_d_prog_31_17_33 : decode prog_31_method_17_code 33 = .ok (.aload_n 0, 1) := by decide +kernel
theorem own_d_prog_31_17_34 : decode prog_31_method_17_code 34 = .ok (.getfield 15, 3) := by decide +kernel
theorem own_d_prog_31_17_37 : decode prog_31_method_17_code 37 = .ok (.arraylength, 1) := by decide +kernel
theorem own_d_prog_31_17_38 : decode prog_31_method_17_code 38 = .ok (.if_icmp .ge 22, 3) := by decide +kernel
theorem own_d_prog_31_17_41 : decode prog_31_method_17_code 41 = .ok (.aload_n 0, 1) := by decide +kernel
theorem own_d_prog_31_17_42 : decode prog_31_method_17_code 42 = .ok (.getfield 15, 3) := by decide +kernel
theorem own_d_prog_31_17_45 : decode prog_31_method_17_code 45 = .ok (.iload_n 2, 1) := by decide +kernel
theorem own_d_prog_31_17_46 : decode prog_31_method_17_code 46 = .ok (.laload, 1) := by decide +kernel
theorem own_d_prog_31_17_47 : decode prog_31_method_17_code 47 = .ok (.lconst 1, 1) := by decide +kernel
theorem own_d_prog_31_17_48 : decode prog_31_method_17_code 48 = .ok (.iload_n 1, 1) := by decide +kernel
theorem own_d_prog_31_17_49 : decode prog_31_method_17_code 49 = .ok (.lshl, 1) := by decide +kernel
theorem own_d_prog_31_17_50 : decode prog_31_method_17_code 50 = .ok (.land, 1) := by decide +kernel
theorem own_d_prog_31_17_51 : decode prog_31_method_17_code 51 = .ok (.lconst 0, 1) := by decide +kernel
theorem own_d_prog_31_17_52 : decode prog_31_method_17_code 52 = .ok (.lcmp, 1) := by decide +kernel
theorem own_d_prog_31_17_53 : decode prog_31_method_17_code 53 = .ok (.ifCond .eq 7, 3) := by decide +kernel
theorem own_d_prog_31_17_60 : decode prog_31_method_17_code 60 = .ok (.iconst 0, 1) := by decide +kernel
theorem own_d_prog_31_17_61 : decode prog_31_method_17_code 61 = .ok (.ireturn, 1) := by decide +kernel
theorem own_d_prog_31_17_56 : decode prog_31_method_17_code 56 = .ok (.iconst 1, 1) := by decide +kernel
theorem own_d_prog_31_17_57 : decode prog_31_method_17_code 57 = .ok (.goto 4, 3) := by decide +kernel
theorem ef_rmHas (m : MethodId) (a1 : Addr) (p1 : Int32) : entryFrame m #[(.ref a1), (.int p1)] 3 = mkF m 0 #[.val (.ref a1), .val (.int p1), .unset] [] := by first | (simp [entryFrame, mkF, argsToLocals, Value.category]; done) | rfl
def Q_rmHas (Z : State) (a1 : Addr) (p1 : Int32) (lo : Int64) (ha : Addr) (kc : ClassId) (z : Int32) (hi : Nat → Int64) (r : Int32) (h0 : Heap) (n0 : Nat) (v : Option Value) (h : Heap) (L : List Loc) : Prop := v = some (.int r) ∧ Fr n0 L ∧ h = h0
set_option maxRecDepth 65536 in
set_option maxHeartbeats 40000000 in
theorem rmHas (l : Launch) (Z : State) (a0 : Array Value) (hw : ∀ d ∈ tables_1, d.before a0 Z = true) (ws : List Jvm.Cond) (a1 : Addr) (p1 : Int32) (lo : Int64) (ha : Addr) (kc : ClassId) (z : Int32) (hi : Nat → Int64) (r : Int32) (h0 : Heap) (n0 : Nat) (Z0 : n0 ≤ h0.size) (Fl : Fld Z h0 a1 "com/example/dramatis/dramatis/analysis/RoleGraph$Targets" "low" "J" (.long lo)) (Fh : Fld Z h0 a1 "com/example/dramatis/dramatis/analysis/RoleGraph$Targets" "high" "[J" (.ref ha)) (Av : Arv Z h0 ha kc .long z (own_ws hi z) (.long (0 : Int64))) (hz0 : ∀ i, z.toNatClampNeg ≤ i → hi i = 0) (zn : ¬ z < 0) (k1 : own_in p1) (hr1 : r = if own_mem lo hi p1 = true then 1 else 0) :
    MetFree l (⟨"com/example/dramatis/dramatis/analysis/RoleGraph$Targets", "has", "(I)Z"⟩ : MethodName) (head1 (Jvm.Cond.code (⟨"com/example/dramatis/dramatis/analysis/RoleGraph$Targets", "has", "(I)Z"⟩ : MethodName) prog_31_method_17_code 3 (some .boolean) :: ws) ({ frames := 0, cells := 0, slots := 0, locals := 0 } : Room)) (fun a U => a = #[(.ref a1), (.int p1)] ∧ Z.Warmed39 U.vm ∧ U.heap = h0) (fun _ _ _ _ _ => True) (fun _ U o U' => ∃ v L, o = .returned v ∧ Q_rmHas Z a1 p1 lo ha kc z hi r h0 n0 (v) U'.heap (L) ∧ FrameEnd U o U' L 0 0) := by
  refine MetFree.of_bodySF (plainFor_of_name own_pn4) hisR ?_
  intro p e s m args below meth c s₁ Bd hml0 hP hK
  obtain ⟨rfl, hZ, hh⟩ := hP
  have hx := Bd.exec
  have hby := Bd.bytes
  have hml : c.maxLocals = 3 := hml0
  have hown : s.vm.findClass "com/example/dramatis/dramatis/analysis/RoleGraph$Targets" = some m.cls := findClass_of_methodNamed Bd.named
  have hnm := (name_of_methodNamed Bd.named Bd.method).1
  have X0 : Stand p l e ({ frames := 0, cells := 0, slots := 0, locals := 0 } : Room) s m #[(.ref a1), (.int p1)] below meth c s₁ [] 0 0 := Stand.of_body Bd
  have e0 : s₁.heap = h0 := by rw [← hh, Bd.state]; rfl
  have N0 := Fr.nil n0
  have pre0 : ∀ tgt, Steps p.tables e below (s₁.setTop (mkF m 0 #[.val (.ref a1), .val (.int p1), .unset] [])) tgt → Steps p.tables e below (s₁.setTop (entryFrame m #[(.ref a1), (.int p1)] 3)) tgt := fun tgt k => castTop (ef_rmHas m a1 p1) k
  have pre1 : ∀ tgt, Steps p.tables e below (s₁.setTop (mkF m 3 #[.val (.ref a1), .val (.int p1), .unset] [(.int (64 : Int32)), (.int p1)])) tgt → Steps p.tables e below (s₁.setTop (entryFrame m #[(.ref a1), (.int p1)] 3)) tgt := fun tgt kt_ => by
    refine pre0 _ ?_
    show Steps p.tables e below (s₁.setTop (mkF m 0 #[.val (.ref a1), .val (.int p1), .unset] [])) _
    refine XS.iloadN X0.here hx rfl (hb hby own_d_prog_31_17_0) rfl ?_
    show Steps p.tables e below (s₁.setTop (mkF m 1 #[.val (.ref a1), .val (.int p1), .unset] [(.int p1)])) _
    refine XS.bipush X0.here hx rfl (hb hby own_d_prog_31_17_1) ?_
    show Steps p.tables e below (s₁.setTop (mkF m 3 #[.val (.ref a1), .val (.int p1), .unset] [(.int (64 : Int32)), (.int p1)])) _
    exact kt_
  rcases Decidable.em (p1 < (64 : Int32)) with hc3_2 | hc3_2
  ·
    obtain ⟨T3, X3, eh3, st3⟩ := getF X0 hx hZ hown (host := "") (Or.inl (hw _ (List.mem_of_getElem? (i := 61) rfl))) Via.refl e0 Fl (g := (mkF m 7 #[.val (.ref a1), .val (.int p1), .unset] [(.ref a1)])) rfl rfl (hb hby own_d_prog_31_17_7)
    have pre4 : ∀ tgt, Steps p.tables e below (T3.setTop (mkF m 16 #[.val (.ref a1), .val (.int p1), .unset] [(.int (lcmpW (lo &&& ((1 : Int64) <<< (p1 &&& 0x3f).toInt64)) (0 : Int64)))])) tgt → Steps p.tables e below (s₁.setTop (entryFrame m #[(.ref a1), (.int p1)] 3)) tgt := fun tgt kt_ => by
      refine pre1 _ ?_
      show Steps p.tables e below (s₁.setTop (mkF m 3 #[.val (.ref a1), .val (.int p1), .unset] [(.int (64 : Int32)), (.int p1)])) _
      refine XS.icmpNo X0.here hx rfl (hb hby own_d_prog_31_17_3) rfl (tlt hc3_2).2.1 ?_
      show Steps p.tables e below (s₁.setTop (mkF m 6 #[.val (.ref a1), .val (.int p1), .unset] [])) _
      refine XS.aloadN X0.here hx rfl (hb hby own_d_prog_31_17_6) rfl rfl ?_
      show Steps p.tables e below (s₁.setTop (mkF m 7 #[.val (.ref a1), .val (.int p1), .unset] [(.ref a1)])) _
      refine st3 _ ?_
      show Steps p.tables e below (T3.setTop (mkF m 10 #[.val (.ref a1), .val (.int p1), .unset] [(.long lo)])) _
      refine XS.lconst X3.here hx rfl (hb hby own_d_prog_31_17_10) ?_
      show Steps p.tables e below (T3.setTop (mkF m 11 #[.val (.ref a1), .val (.int p1), .unset] [(.long (1 : Int64)), (.long lo)])) _
      refine XS.iloadN X3.here hx rfl (hb hby own_d_prog_31_17_11) rfl ?_
      show Steps p.tables e below (T3.setTop (mkF m 12 #[.val (.ref a1), .val (.int p1), .unset] [(.int p1), (.long (1 : Int64)), (.long lo)])) _
      refine XS.lshl X3.here hx rfl (hb hby own_d_prog_31_17_12) rfl ?_
      show Steps p.tables e below (T3.setTop (mkF m 13 #[.val (.ref a1), .val (.int p1), .unset] [(.long ((1 : Int64) <<< (p1 &&& 0x3f).toInt64)), (.long lo)])) _
      refine XS.land X3.here hx rfl (hb hby own_d_prog_31_17_13) rfl ?_
      show Steps p.tables e below (T3.setTop (mkF m 14 #[.val (.ref a1), .val (.int p1), .unset] [(.long (lo &&& ((1 : Int64) <<< (p1 &&& 0x3f).toInt64)))])) _
      refine XS.lconst X3.here hx rfl (hb hby own_d_prog_31_17_14) ?_
      show Steps p.tables e below (T3.setTop (mkF m 15 #[.val (.ref a1), .val (.int p1), .unset] [(.long (0 : Int64)), (.long (lo &&& ((1 : Int64) <<< (p1 &&& 0x3f).toInt64)))])) _
      refine XS.lcmp X3.here hx rfl (hb hby own_d_prog_31_17_15) rfl ?_
      show Steps p.tables e below (T3.setTop (mkF m 16 #[.val (.ref a1), .val (.int p1), .unset] [(.int (lcmpW (lo &&& ((1 : Int64) <<< (p1 &&& 0x3f).toInt64)) (0 : Int64)))])) _
      exact kt_
    rcases Decidable.em ((lcmpW (lo &&& ((1 : Int64) <<< (p1 &&& 0x3f).toInt64)) (0 : Int64)) = (0 : Int32)) with hc16_5 | hc16_5
    ·
      obtain ⟨fs, hr, hrun, hended, hW, hsame⟩ := X3.leave (v := some (.int (0 : Int32))) (fun h => by rw [Bd.returns] at h; cases h)
      refine ⟨_, _, pre4 _ ?_, hrun, hended, _, _, rfl, ?_, ⟨_, rfl⟩, hW, hsame.mono (by decide) (by decide)⟩
      ·
        show Steps p.tables e below (T3.setTop (mkF m 16 #[.val (.ref a1), .val (.int p1), .unset] [(.int (lcmpW (lo &&& ((1 : Int64) <<< (p1 &&& 0x3f).toInt64)) (0 : Int64)))])) _
        refine XS.ifYes X3.here hx rfl (pc0 := 16) (pc' := 23) rfl (hb hby own_d_prog_31_17_16) rfl ((if0 _ _).trans (teq hc16_5).1) (by decide) (by decide) ?_
        show Steps p.tables e below (T3.setTop (mkF m 23 #[.val (.ref a1), .val (.int p1), .unset] [])) _
        refine XS.iconst X3.here hx rfl (hb hby own_d_prog_31_17_23) ?_
        show Steps p.tables e below (T3.setTop (mkF m 24 #[.val (.ref a1), .val (.int p1), .unset] [(.int (0 : Int32))])) _
        exact retN X3 hx (t := .boolean) Bd.returns (by simp) (hb hby own_d_prog_31_17_24) hr
      ·
        show Q_rmHas Z a1 p1 lo ha kc z hi r h0 n0 (_) T3.heap (_)
        rw [eh3]
        exact ⟨by rw [hr1, own_mem, if_pos hc3_2]; exact own_btr0 hc16_5, N0, rfl⟩
    ·
      obtain ⟨fs, hr, hrun, hended, hW, hsame⟩ := X3.leave (v := some (.int (1 : Int32))) (fun h => by rw [Bd.returns] at h; cases h)
      refine ⟨_, _, pre4 _ ?_, hrun, hended, _, _, rfl, ?_, ⟨_, rfl⟩, hW, hsame.mono (by decide) (by decide)⟩
      ·
        show Steps p.tables e below (T3.setTop (mkF m 16 #[.val (.ref a1), .val (.int p1), .unset] [(.int (lcmpW (lo &&& ((1 : Int64) <<< (p1 &&& 0x3f).toInt64)) (0 : Int64)))])) _
        refine XS.ifNo X3.here hx rfl (hb hby own_d_prog_31_17_16) rfl ((if0 _ _).trans (feq hc16_5).1) ?_
        show Steps p.tables e below (T3.setTop (mkF m 19 #[.val (.ref a1), .val (.int p1), .unset] [])) _
        refine XS.iconst X3.here hx rfl (hb hby own_d_prog_31_17_19) ?_
        show Steps p.tables e below (T3.setTop (mkF m 20 #[.val (.ref a1), .val (.int p1), .unset] [(.int (1 : Int32))])) _
        refine XS.goto X3.here hx rfl (pc0 := 20) (pc' := 24) rfl (hb hby own_d_prog_31_17_20) (by decide) (by decide) ?_
        show Steps p.tables e below (T3.setTop (mkF m 24 #[.val (.ref a1), .val (.int p1), .unset] [(.int (1 : Int32))])) _
        exact retN X3 hx (t := .boolean) Bd.returns (by simp) (hb hby own_d_prog_31_17_24) hr
      ·
        show Q_rmHas Z a1 p1 lo ha kc z hi r h0 n0 (_) T3.heap (_)
        rw [eh3]
        exact ⟨by rw [hr1, own_mem, if_pos hc3_2]; exact own_btr1 hc16_5, N0, rfl⟩
  ·
    obtain ⟨T6, X6, eh6, st6⟩ := getF X0 hx hZ hown (host := "") (Or.inl (hw _ (List.mem_of_getElem? (i := 22) rfl))) Via.refl e0 Fh (g := (mkF m 34 #[.val (.ref a1), .val (.int p1), .val (.int ((p1 / (64 : Int32)) - (1 : Int32)))] [(.ref a1), (.int ((p1 / (64 : Int32)) - (1 : Int32)))])) rfl rfl (hb hby own_d_prog_31_17_34)
    obtain ⟨cl7, Ar7, q7, Sz7, Ng7, Hs7, Gf7⟩ := id Av
    have pre8 : ∀ tgt, Steps p.tables e below (T6.setTop (mkF m 38 #[.val (.ref a1), .val (.int p1), .val (.int ((p1 / (64 : Int32)) - (1 : Int32)))] [(.int z), (.int ((p1 / (64 : Int32)) - (1 : Int32)))])) tgt → Steps p.tables e below (s₁.setTop (entryFrame m #[(.ref a1), (.int p1)] 3)) tgt := fun tgt kt_ => by
      refine pre1 _ ?_
      show Steps p.tables e below (s₁.setTop (mkF m 3 #[.val (.ref a1), .val (.int p1), .unset] [(.int (64 : Int32)), (.int p1)])) _
      refine XS.icmpYes X0.here hx rfl (pc0 := 3) (pc' := 25) rfl (hb hby own_d_prog_31_17_3) rfl (flt hc3_2).2.1 (by decide) (by decide) ?_
      show Steps p.tables e below (s₁.setTop (mkF m 25 #[.val (.ref a1), .val (.int p1), .unset] [])) _
      refine XS.iloadN X0.here hx rfl (hb hby own_d_prog_31_17_25) rfl ?_
      show Steps p.tables e below (s₁.setTop (mkF m 26 #[.val (.ref a1), .val (.int p1), .unset] [(.int p1)])) _
      refine XS.bipush X0.here hx rfl (hb hby own_d_prog_31_17_26) ?_
      show Steps p.tables e below (s₁.setTop (mkF m 28 #[.val (.ref a1), .val (.int p1), .unset] [(.int (64 : Int32)), (.int p1)])) _
      refine XS.idiv X0.here hx rfl (hb hby own_d_prog_31_17_28) rfl (by decide) ?_
      show Steps p.tables e below (s₁.setTop (mkF m 29 #[.val (.ref a1), .val (.int p1), .unset] [(.int (p1 / (64 : Int32)))])) _
      refine XS.iconst X0.here hx rfl (hb hby own_d_prog_31_17_29) ?_
      show Steps p.tables e below (s₁.setTop (mkF m 30 #[.val (.ref a1), .val (.int p1), .unset] [(.int (1 : Int32)), (.int (p1 / (64 : Int32)))])) _
      refine XS.isub X0.here hx rfl (hb hby own_d_prog_31_17_30) rfl ?_
      show Steps p.tables e below (s₁.setTop (mkF m 31 #[.val (.ref a1), .val (.int p1), .unset] [(.int ((p1 / (64 : Int32)) - (1 : Int32)))])) _
      refine XS.istoreN X0.here hx rfl (hb hby own_d_prog_31_17_31) rfl (l' := #[.val (.ref a1), .val (.int p1), .val (.int ((p1 / (64 : Int32)) - (1 : Int32)))]) rfl ?_
      show Steps p.tables e below (s₁.setTop (mkF m 32 #[.val (.ref a1), .val (.int p1), .val (.int ((p1 / (64 : Int32)) - (1 : Int32)))] [])) _
      refine XS.iloadN X0.here hx rfl (hb hby own_d_prog_31_17_32) rfl ?_
      show Steps p.tables e below (s₁.setTop (mkF m 33 #[.val (.ref a1), .val (.int p1), .val (.int ((p1 / (64 : Int32)) - (1 : Int32)))] [(.int ((p1 / (64 : Int32)) - (1 : Int32)))])) _
      refine XS.aloadN X0.here hx rfl (hb hby own_d_prog_31_17_33) rfl rfl ?_
      show Steps p.tables e below (s₁.setTop (mkF m 34 #[.val (.ref a1), .val (.int p1), .val (.int ((p1 / (64 : Int32)) - (1 : Int32)))] [(.ref a1), (.int ((p1 / (64 : Int32)) - (1 : Int32)))])) _
      refine st6 _ ?_
      show Steps p.tables e below (T6.setTop (mkF m 37 #[.val (.ref a1), .val (.int p1), .val (.int ((p1 / (64 : Int32)) - (1 : Int32)))] [(.ref ha), (.int ((p1 / (64 : Int32)) - (1 : Int32)))])) _
      refine X6.arraylength hx (by rw [eh6]; exact Ar7.1) (State.isArrayOf_alike hZ.alike Ar7.2.1) (g := (mkF m 37 #[.val (.ref a1), .val (.int p1), .val (.int ((p1 / (64 : Int32)) - (1 : Int32)))] [(.ref ha), (.int ((p1 / (64 : Int32)) - (1 : Int32)))])) rfl rfl (hb hby own_d_prog_31_17_37) _ ?_
      rw [len_of Sz7 Ng7]
      show Steps p.tables e below (T6.setTop (mkF m 38 #[.val (.ref a1), .val (.int p1), .val (.int ((p1 / (64 : Int32)) - (1 : Int32)))] [(.int z), (.int ((p1 / (64 : Int32)) - (1 : Int32)))])) _
      exact kt_
    rcases Decidable.em (((p1 / (64 : Int32)) - (1 : Int32)) < z) with hc38_9 | hc38_9
    ·
      obtain ⟨T10, X10, eh10, st10⟩ := getF X6 hx hZ hown (host := "") (Or.inl (hw _ (List.mem_of_getElem? (i := 22) rfl))) Via.refl eh6 Fh (g := (mkF m 42 #[.val (.ref a1), .val (.int p1), .val (.int ((p1 / (64 : Int32)) - (1 : Int32)))] [(.ref a1)])) rfl rfl (hb hby own_d_prog_31_17_42)
      obtain ⟨cl11, Ar11, q11, Sz11, Ng11, Hs11, Gf11⟩ := id Av
      have hin11 := inb_of Sz11 (j := ((p1 / (64 : Int32)) - (1 : Int32))) ⟨own_wd_nn hc3_2 k1.2, hc38_9⟩
      have pre12 : ∀ tgt, Steps p.tables e below (T10.setTop (mkF m 53 #[.val (.ref a1), .val (.int p1), .val (.int ((p1 / (64 : Int32)) - (1 : Int32)))] [(.int (lcmpW ((hi ((p1 / (64 : Int32)) - (1 : Int32)).toNatClampNeg) &&& ((1 : Int64) <<< (p1 &&& 0x3f).toInt64)) (0 : Int64)))])) tgt → Steps p.tables e below (s₁.setTop (entryFrame m #[(.ref a1), (.int p1)] 3)) tgt := fun tgt kt_ => by
        refine pre8 _ ?_
        show Steps p.tables e below (T6.setTop (mkF m 38 #[.val (.ref a1), .val (.int p1), .val (.int ((p1 / (64 : Int32)) - (1 : Int32)))] [(.int z), (.int ((p1 / (64 : Int32)) - (1 : Int32)))])) _
        refine XS.icmpNo X6.here hx rfl (hb hby own_d_prog_31_17_38) rfl (tlt hc38_9).2.1 ?_
        show Steps p.tables e below (T6.setTop (mkF m 41 #[.val (.ref a1), .val (.int p1), .val (.int ((p1 / (64 : Int32)) - (1 : Int32)))] [])) _
        refine XS.aloadN X6.here hx rfl (hb hby own_d_prog_31_17_41) rfl rfl ?_
        show Steps p.tables e below (T6.setTop (mkF m 42 #[.val (.ref a1), .val (.int p1), .val (.int ((p1 / (64 : Int32)) - (1 : Int32)))] [(.ref a1)])) _
        refine st10 _ ?_
        show Steps p.tables e below (T10.setTop (mkF m 45 #[.val (.ref a1), .val (.int p1), .val (.int ((p1 / (64 : Int32)) - (1 : Int32)))] [(.ref ha)])) _
        refine XS.iloadN X10.here hx rfl (hb hby own_d_prog_31_17_45) rfl ?_
        show Steps p.tables e below (T10.setTop (mkF m 46 #[.val (.ref a1), .val (.int p1), .val (.int ((p1 / (64 : Int32)) - (1 : Int32)))] [(.int ((p1 / (64 : Int32)) - (1 : Int32))), (.ref ha)])) _
        refine X10.laload hx (j := ((p1 / (64 : Int32)) - (1 : Int32))) (v := (.long (hi ((p1 / (64 : Int32)) - (1 : Int32)).toNatClampNeg))) (by rw [eh10]; exact Ar11.1) (State.isArrayOf_alike hZ.alike Ar11.2.1) Ar11.2.2 hin11 (Hs11.at hin11 (own_ws_get hz0 _)) (g := (mkF m 46 #[.val (.ref a1), .val (.int p1), .val (.int ((p1 / (64 : Int32)) - (1 : Int32)))] [(.int ((p1 / (64 : Int32)) - (1 : Int32))), (.ref ha)])) rfl rfl (hb hby own_d_prog_31_17_46) _ ?_
        show Steps p.tables e below (T10.setTop (mkF m 47 #[.val (.ref a1), .val (.int p1), .val (.int ((p1 / (64 : Int32)) - (1 : Int32)))] [(.long (hi ((p1 / (64 : Int32)) - (1 : Int32)).toNatClampNeg))])) _
        refine XS.lconst X10.here hx rfl (hb hby own_d_prog_31_17_47) ?_
        show Steps p.tables e below (T10.setTop (mkF m 48 #[.val (.ref a1), .val (.int p1), .val (.int ((p1 / (64 : Int32)) - (1 : Int32)))] [(.long (1 : Int64)), (.long (hi ((p1 / (64 : Int32)) - (1 : Int32)).toNatClampNeg))])) _
        refine XS.iloadN X10.here hx rfl (hb hby own_d_prog_31_17_48) rfl ?_
        show Steps p.tables e below (T10.setTop (mkF m 49 #[.val (.ref a1), .val (.int p1), .val (.int ((p1 / (64 : Int32)) - (1 : Int32)))] [(.int p1), (.long (1 : Int64)), (.long (hi ((p1 / (64 : Int32)) - (1 : Int32)).toNatClampNeg))])) _
        refine XS.lshl X10.here hx rfl (hb hby own_d_prog_31_17_49) rfl ?_
        show Steps p.tables e below (T10.setTop (mkF m 50 #[.val (.ref a1), .val (.int p1), .val (.int ((p1 / (64 : Int32)) - (1 : Int32)))] [(.long ((1 : Int64) <<< (p1 &&& 0x3f).toInt64)), (.long (hi ((p1 / (64 : Int32)) - (1 : Int32)).toNatClampNeg))])) _
        refine XS.land X10.here hx rfl (hb hby own_d_prog_31_17_50) rfl ?_
        show Steps p.tables e below (T10.setTop (mkF m 51 #[.val (.ref a1), .val (.int p1), .val (.int ((p1 / (64 : Int32)) - (1 : Int32)))] [(.long ((hi ((p1 / (64 : Int32)) - (1 : Int32)).toNatClampNeg) &&& ((1 : Int64) <<< (p1 &&& 0x3f).toInt64)))])) _
        refine XS.lconst X10.here hx rfl (hb hby own_d_prog_31_17_51) ?_
        show Steps p.tables e below (T10.setTop (mkF m 52 #[.val (.ref a1), .val (.int p1), .val (.int ((p1 / (64 : Int32)) - (1 : Int32)))] [(.long (0 : Int64)), (.long ((hi ((p1 / (64 : Int32)) - (1 : Int32)).toNatClampNeg) &&& ((1 : Int64) <<< (p1 &&& 0x3f).toInt64)))])) _
        refine XS.lcmp X10.here hx rfl (hb hby own_d_prog_31_17_52) rfl ?_
        show Steps p.tables e below (T10.setTop (mkF m 53 #[.val (.ref a1), .val (.int p1), .val (.int ((p1 / (64 : Int32)) - (1 : Int32)))] [(.int (lcmpW ((hi ((p1 / (64 : Int32)) - (1 : Int32)).toNatClampNeg) &&& ((1 : Int64) <<< (p1 &&& 0x3f).toInt64)) (0 : Int64)))])) _
        exact kt_
      rcases Decidable.em ((lcmpW ((hi ((p1 / (64 : Int32)) - (1 : Int32)).toNatClampNeg) &&& ((1 : Int64) <<< (p1 &&& 0x3f).toInt64)) (0 : Int64)) = (0 : Int32)) with hc53_13 | hc53_13
      ·
        obtain ⟨fs, hr, hrun, hended, hW, hsame⟩ := X10.leave (v := some (.int (0 : Int32))) (fun h => by rw [Bd.returns] at h; cases h)
        refine ⟨_, _, pre12 _ ?_, hrun, hended, _, _, rfl, ?_, ⟨_, rfl⟩, hW, hsame.mono (by decide) (by decide)⟩
        ·
          show Steps p.tables e below (T10.setTop (mkF m 53 #[.val (.ref a1), .val (.int p1), .val (.int ((p1 / (64 : Int32)) - (1 : Int32)))] [(.int (lcmpW ((hi ((p1 / (64 : Int32)) - (1 : Int32)).toNatClampNeg) &&& ((1 : Int64) <<< (p1 &&& 0x3f).toInt64)) (0 : Int64)))])) _
          refine XS.ifYes X10.here hx rfl (pc0 := 53) (pc' := 60) rfl (hb hby own_d_prog_31_17_53) rfl ((if0 _ _).trans (teq hc53_13).1) (by decide) (by decide) ?_
          show Steps p.tables e below (T10.setTop (mkF m 60 #[.val (.ref a1), .val (.int p1), .val (.int ((p1 / (64 : Int32)) - (1 : Int32)))] [])) _
          refine XS.iconst X10.here hx rfl (hb hby own_d_prog_31_17_60) ?_
          show Steps p.tables e below (T10.setTop (mkF m 61 #[.val (.ref a1), .val (.int p1), .val (.int ((p1 / (64 : Int32)) - (1 : Int32)))] [(.int (0 : Int32))])) _
          exact retN X10 hx (t := .boolean) Bd.returns (by simp) (hb hby own_d_prog_31_17_61) hr
        ·
          show Q_rmHas Z a1 p1 lo ha kc z hi r h0 n0 (_) T10.heap (_)
          rw [eh10]
          exact ⟨by rw [hr1, own_mem, if_neg hc3_2]; exact own_btr0 hc53_13, N0, rfl⟩
      ·
        obtain ⟨fs, hr, hrun, hended, hW, hsame⟩ := X10.leave (v := some (.int (1 : Int32))) (fun h => by rw [Bd.returns] at h; cases h)
        refine ⟨_, _, pre12 _ ?_, hrun, hended, _, _, rfl, ?_, ⟨_, rfl⟩, hW, hsame.mono (by decide) (by decide)⟩
        ·
          show Steps p.tables e below (T10.setTop (mkF m 53 #[.val (.ref a1), .val (.int p1), .val (.int ((p1 / (64 : Int32)) - (1 : Int32)))] [(.int (lcmpW ((hi ((p1 / (64 : Int32)) - (1 : Int32)).toNatClampNeg) &&& ((1 : Int64) <<< (p1 &&& 0x3f).toInt64)) (0 : Int64)))])) _
          refine XS.ifNo X10.here hx rfl (hb hby own_d_prog_31_17_53) rfl ((if0 _ _).trans (feq hc53_13).1) ?_
          show Steps p.tables e below (T10.setTop (mkF m 56 #[.val (.ref a1), .val (.int p1), .val (.int ((p1 / (64 : Int32)) - (1 : Int32)))] [])) _
          refine XS.iconst X10.here hx rfl (hb hby own_d_prog_31_17_56) ?_
          show Steps p.tables e below (T10.setTop (mkF m 57 #[.val (.ref a1), .val (.int p1), .val (.int ((p1 / (64 : Int32)) - (1 : Int32)))] [(.int (1 : Int32))])) _
          refine XS.goto X10.here hx rfl (pc0 := 57) (pc' := 61) rfl (hb hby own_d_prog_31_17_57) (by decide) (by decide) ?_
          show Steps p.tables e below (T10.setTop (mkF m 61 #[.val (.ref a1), .val (.int p1), .val (.int ((p1 / (64 : Int32)) - (1 : Int32)))] [(.int (1 : Int32))])) _
          exact retN X10 hx (t := .boolean) Bd.returns (by simp) (hb hby own_d_prog_31_17_61) hr
        ·
          show Q_rmHas Z a1 p1 lo ha kc z hi r h0 n0 (_) T10.heap (_)
          rw [eh10]
          exact ⟨by rw [hr1, own_mem, if_neg hc3_2]; exact own_btr1 hc53_13, N0, rfl⟩
    ·
      obtain ⟨fs, hr, hrun, hended, hW, hsame⟩ := X6.leave (v := some (.int (0 : Int32))) (fun h => by rw [Bd.returns] at h; cases h)
      refine ⟨_, _, pre8 _ ?_, hrun, hended, _, _, rfl, ?_, ⟨_, rfl⟩, hW, hsame.mono (by decide) (by decide)⟩
      ·
        show Steps p.tables e below (T6.setTop (mkF m 38 #[.val (.ref a1), .val (.int p1), .val (.int ((p1 / (64 : Int32)) - (1 : Int32)))] [(.int z), (.int ((p1 / (64 : Int32)) - (1 : Int32)))])) _
        refine XS.icmpYes X6.here hx rfl (pc0 := 38) (pc' := 60) rfl (hb hby own_d_prog_31_17_38) rfl (flt hc38_9).2.1 (by decide) (by decide) ?_
        show Steps p.tables e below (T6.setTop (mkF m 60 #[.val (.ref a1), .val (.int p1), .val (.int ((p1 / (64 : Int32)) - (1 : Int32)))] [])) _
        refine XS.iconst X6.here hx rfl (hb hby own_d_prog_31_17_60) ?_
        show Steps p.tables e below (T6.setTop (mkF m 61 #[.val (.ref a1), .val (.int p1), .val (.int ((p1 / (64 : Int32)) - (1 : Int32)))] [(.int (0 : Int32))])) _
        exact retN X6 hx (t := .boolean) Bd.returns (by simp) (hb hby own_d_prog_31_17_61) hr
      ·
        show Q_rmHas Z a1 p1 lo ha kc z hi r h0 n0 (_) T6.heap (_)
        rw [eh6]
        exact ⟨by rw [hr1, own_mem, if_neg hc3_2, hz0 (own_wd p1).toNatClampNeg (own_ge hc38_9 (own_wd_nn hc3_2 k1.2) zn), own_bt_zero]; rfl, N0, rfl⟩
theorem own_d_jdk_29_69_0 : decode jdk_29_method_69_code 0 = .ok (.iload_n 0, 1) := by decide +kernel
theorem own_d_jdk_29_69_1 : decode jdk_29_method_69_code 1 = .ok (.iload_n 1, 1) := by decide +kernel
theorem own_d_jdk_29_69_2 : decode jdk_29_method_69_code 2 = .ok (.if_icmp .gt 7, 3) := by decide +kernel
theorem own_d_jdk_29_69_5 : decode jdk_29_method_69_code 5 = .ok (.iload_n 0, 1) := by decide +kernel
theorem own_d_jdk_29_69_6 : decode jdk_29_method_69_code 6 = .ok (.goto 4, 3) := by decide +kernel
theorem own_d_jdk_29_69_10 : decode jdk_29_method_69_code 10 = .ok (.ireturn, 1) := by decide +kernel
theorem ef_rmMin (m : MethodId) (p1 : Int32) (p2 : Int32) : entryFrame m #[(.int p1), (.int p2)] 2 = mkF m 0 #[.val (.int p1), .val (.int p2)] [] := by first | (simp [entryFrame, mkF, argsToLocals, Value.category]; done) | rfl
def Q_rmMin (Z : State) (p1 : Int32) (p2 : Int32) (h0 : Heap) (n0 : Nat) (v : Option Value) (h : Heap) (L : List Loc) : Prop := v = some (.int p1) ∧ Fr n0 L ∧ h = h0
set_option maxRecDepth 65536 in
set_option maxHeartbeats 40000000 in
theorem rmMin (l : Launch) (Z : State) (a0 : Array Value) (hw : ∀ d ∈ tables_1, d.before a0 Z = true) (ws : List Jvm.Cond) (p1 : Int32) (p2 : Int32) (h0 : Heap) (n0 : Nat) (Z0 : n0 ≤ h0.size) (hle : ¬ p2 < p1) :
    MetFree l (⟨"java/lang/Math", "min", "(II)I"⟩ : MethodName) (head1 (Jvm.Cond.code (⟨"java/lang/Math", "min", "(II)I"⟩ : MethodName) jdk_29_method_69_code 2 (some .int) :: ws) ({ frames := 0, cells := 0, slots := 0, locals := 0 } : Room)) (fun a U => a = #[(.int p1), (.int p2)] ∧ Z.Warmed39 U.vm ∧ U.heap = h0) (fun _ _ _ _ _ => True) (fun _ U o U' => ∃ v L, o = .returned v ∧ Q_rmMin Z p1 p2 h0 n0 (v) U'.heap (L) ∧ FrameEnd U o U' L 0 0) := by
  refine MetFree.of_bodySF (Jvm.Free.JP.mathPlain rfl (by decide +kernel)) hisR ?_
  intro p e s m args below meth c s₁ Bd hml0 hP hK
  obtain ⟨rfl, hZ, hh⟩ := hP
  have hx := Bd.exec
  have hby := Bd.bytes
  have hml : c.maxLocals = 2 := hml0
  have hown : s.vm.findClass "java/lang/Math" = some m.cls := findClass_of_methodNamed Bd.named
  have hnm := (name_of_methodNamed Bd.named Bd.method).1
  have X0 : Stand p l e ({ frames := 0, cells := 0, slots := 0, locals := 0 } : Room) s m #[(.int p1), (.int p2)] below meth c s₁ [] 0 0 := Stand.of_body Bd
  have e0 : s₁.heap = h0 := by rw [← hh, Bd.state]; rfl
  have N0 := Fr.nil n0
  have pre0 : ∀ tgt, Steps p.tables e below (s₁.setTop (mkF m 0 #[.val (.int p1), .val (.int p2)] [])) tgt → Steps p.tables e below (s₁.setTop (entryFrame m #[(.int p1), (.int p2)] 2)) tgt := fun tgt k => castTop (ef_rmMin m p1 p2) k
  obtain ⟨fs, hr, hrun, hended, hW, hsame⟩ := X0.leave (v := some (.int p1)) (fun h => by rw [Bd.returns] at h; cases h)
  refine ⟨_, _, pre0 _ ?_, hrun, hended, _, _, rfl, ?_, ⟨_, rfl⟩, hW, hsame.mono (by decide) (by decide)⟩
  ·
    show Steps p.tables e below (s₁.setTop (mkF m 0 #[.val (.int p1), .val (.int p2)] [])) _
    refine XS.iloadN X0.here hx rfl (hb hby own_d_jdk_29_69_0) rfl ?_
    show Steps p.tables e below (s₁.setTop (mkF m 1 #[.val (.int p1), .val (.int p2)] [(.int p1)])) _
    refine XS.iloadN X0.here hx rfl (hb hby own_d_jdk_29_69_1) rfl ?_
    show Steps p.tables e below (s₁.setTop (mkF m 2 #[.val (.int p1), .val (.int p2)] [(.int p2), (.int p1)])) _
    refine XS.icmpNo X0.here hx rfl (hb hby own_d_jdk_29_69_2) rfl (flt hle).2.2.1 ?_
    show Steps p.tables e below (s₁.setTop (mkF m 5 #[.val (.int p1), .val (.int p2)] [])) _
    refine XS.iloadN X0.here hx rfl (hb hby own_d_jdk_29_69_5) rfl ?_
    show Steps p.tables e below (s₁.setTop (mkF m 6 #[.val (.int p1), .val (.int p2)] [(.int p1)])) _
    refine XS.goto X0.here hx rfl (pc0 := 6) (pc' := 10) rfl (hb hby own_d_jdk_29_69_6) (by decide) (by decide) ?_
    show Steps p.tables e below (s₁.setTop (mkF m 10 #[.val (.int p1), .val (.int p2)] [(.int p1)])) _
    exact retI X0 hx Bd.returns (hb hby own_d_jdk_29_69_10) hr
  ·
    show Q_rmMin Z p1 p2 h0 n0 (_) s₁.heap (_)
    rw [e0]
    exact ⟨rfl, N0, rfl⟩
theorem own_d_jdk_65_124_0 : decode jdk_65_method_124_code 0 = .ok (.iload_n 1, 1) := by decide +kernel
theorem own_d_jdk_65_124_1 : decode jdk_65_method_124_code 1 = .ok (.aload_n 0, 1) := by decide +kernel
theorem own_d_jdk_65_124_2 : decode jdk_65_method_124_code 2 = .ok (.arraylength, 1) := by decide +kernel
theorem own_d_jdk_65_124_3 : decode jdk_65_method_124_code 3 = .ok (.if_icmp .ne 11, 3) := by decide +kernel
theorem own_d_jdk_65_124_14 : decode jdk_65_method_124_code 14 = .ok (.iload_n 1, 1) := by decide +kernel
theorem own_d_jdk_65_124_15 : decode jdk_65_method_124_code 15 = .ok (.newarray .long, 2) := by decide +kernel
theorem own_d_jdk_65_124_17 : decode jdk_65_method_124_code 17 = .ok (.astore_n 2, 1) := by decide +kernel
theorem own_d_jdk_65_124_18 : decode jdk_65_method_124_code 18 = .ok (.aload_n 0, 1) := by decide +kernel
theorem own_d_jdk_65_124_19 : decode jdk_65_method_124_code 19 = .ok (.iconst 0, 1) := by decide +kernel
theorem own_d_jdk_65_124_20 : decode jdk_65_method_124_code 20 = .ok (.aload_n 2, 1) := by decide +kernel
theorem own_d_jdk_65_124_21 : decode jdk_65_method_124_code 21 = .ok (.iconst 0, 1) := by decide +kernel
theorem own_d_jdk_65_124_22 : decode jdk_65_method_124_code 22 = .ok (.aload_n 0, 1) := by decide +kernel
theorem own_d_jdk_65_124_23 : decode jdk_65_method_124_code 23 = .ok (.arraylength, 1) := by decide +kernel
theorem own_d_jdk_65_124_24 : decode jdk_65_method_124_code 24 = .ok (.iload_n 1, 1) := by decide +kernel
theorem own_d_jdk_65_124_25 : decode jdk_65_method_124_code 25 = .ok (.invokestatic 304, 3) := by decide +kernel
theorem own_pd2 : parseMethodDescriptor "(II)I" = some ⟨[.int, .int], some .int⟩ := by decide +kernel
theorem own_d_jdk_65_124_28 : decode jdk_65_method_124_code 28 = .ok (.invokestatic 150, 3) := by decide +kernel
theorem own_d_jdk_65_124_31 : decode jdk_65_method_124_code 31 = .ok (.aload_n 2, 1) := by decide +kernel
theorem own_d_jdk_65_124_32 : decode jdk_65_method_124_code 32 = .ok (.areturn, 1) := by decide +kernel
theorem own_pn5 : plainName "java/util/Arrays" = true := by first | (simp [plainName, overriddenIn]; done) | decide +kernel
theorem ef_rmCopy (m : MethodId) (ha : Addr) (p1 : Int32) : entryFrame m #[(.ref ha), (.int p1)] 3 = mkF m 0 #[.val (.ref ha), .val (.int p1), .unset] [] := by first | (simp [entryFrame, mkF, argsToLocals, Value.category]; done) | rfl
def Q_rmCopy (Z : State) (ha : Addr) (p1 : Int32) (kc : ClassId) (z : Int32) (hi : Nat → Int64) (h0 : Heap) (n0 : Nat) (v : Option Value) (h : Heap) (L : List Loc) : Prop := ∃ b kb, v = some (.ref b) ∧ Fr n0 L ∧ Keep h0 h [] ∧ h0.size ≤ b ∧ n0 ≤ b ∧ Arv Z h b kb .long p1 (own_ws hi p1) (.long (0 : Int64))
set_option maxRecDepth 65536 in
set_option maxHeartbeats 40000000 in
theorem rmCopy (l : Launch) (Z : State) (a0 : Array Value) (hw : ∀ d ∈ tables_1, d.before a0 Z = true) (ws : List Jvm.Cond) (ha : Addr) (p1 : Int32) (kc : ClassId) (z : Int32) (hi : Nat → Int64) (h0 : Heap) (n0 : Nat) (Z0 : n0 ≤ h0.size) (Av : Arv Z h0 ha kc .long z (own_ws hi z) (.long (0 : Int64))) (hz0 : ∀ i, z.toNatClampNeg ≤ i → hi i = 0) (zn : ¬ z < 0) (hne : ¬ p1 = z) (hle : ¬ p1 < z) (pn : ¬ p1 < 0) (hleN : z.toNatClampNeg ≤ p1.toNatClampNeg) (p15 : p1.toNatClampNeg ≤ 15) :
    MetFree l (⟨"java/util/Arrays", "copyOf", "([JI)[J"⟩ : MethodName) (head1 (Jvm.Cond.code (⟨"java/util/Arrays", "copyOf", "([JI)[J"⟩ : MethodName) jdk_65_method_124_code 3 (some (.array .long)) :: ws) ({ frames := 1, cells := 1, slots := 15, locals := 40 } : Room)) (fun a U => a = #[(.ref ha), (.int p1)] ∧ Z.Warmed39 U.vm ∧ U.heap = h0) (fun _ _ _ _ _ => True) (fun _ U o U' => ∃ v L, o = .returned v ∧ Q_rmCopy Z ha p1 kc z hi h0 n0 (v) U'.heap (L) ∧ FrameEnd U o U' L 1 15) := by
  refine MetFree.of_bodySF (plainFor_of_name own_pn5) hisR ?_
  intro p e s m args below meth c s₁ Bd hml0 hP hK
  obtain ⟨rfl, hZ, hh⟩ := hP
  have hx := Bd.exec
  have hby := Bd.bytes
  have hml : c.maxLocals = 3 := hml0
  have hown : s.vm.findClass "java/util/Arrays" = some m.cls := findClass_of_methodNamed Bd.named
  have hnm := (name_of_methodNamed Bd.named Bd.method).1
  have X0 : Stand p l e ({ frames := 1, cells := 1, slots := 15, locals := 40 } : Room) s m #[(.ref ha), (.int p1)] below meth c s₁ [] 0 0 := Stand.of_body Bd
  have e0 : s₁.heap = h0 := by rw [← hh, Bd.state]; rfl
  have N0 := Fr.nil n0
  have pre0 : ∀ tgt, Steps p.tables e below (s₁.setTop (mkF m 0 #[.val (.ref ha), .val (.int p1), .unset] [])) tgt → Steps p.tables e below (s₁.setTop (entryFrame m #[(.ref ha), (.int p1)] 3)) tgt := fun tgt k => castTop (ef_rmCopy m ha p1) k
  obtain ⟨cl1, Ar1, q1, Sz1, Ng1, Hs1, Gf1⟩ := id Av
  obtain ⟨T2, h2, k2, X2, eh2, Ee2, A2, st2⟩ := newP X0 hx hZ (hw _ (List.mem_of_getElem? (i := 88) rfl)) e0 (g := (mkF m 15 #[.val (.ref ha), .val (.int p1), .unset] [(.int p1)])) rfl (hb hby own_d_jdk_65_124_15) rfl pn (cap := 15) p15 (by decide) (by decide) (by decide)
  obtain ⟨b2, g2⟩ : ∃ z, z = h0.size := ⟨_, rfl⟩
  rw [← g2] at A2 st2
  have ne_ha_b2 : ha ≠ b2 := Nat.ne_of_lt (Nat.lt_of_lt_of_le Av.lt (Nat.le_of_eq g2.symm))
  have gf_b2 : n0 ≤ b2 := Nat.le_trans Z0 (Nat.le_of_eq g2.symm)
  have sz_b2 : h0.size ≤ b2 := Nat.le_trans (Keep.refl h0 []).1 (Nat.le_of_eq g2.symm)
  have Zs3 : n0 ≤ h2.size := Nat.le_trans Z0 Ee2.1
  have Kp3 : Keep h0 h2 [] := (Keep.refl h0 []).ext Ee2
  have V2 := Arv.new A2 pn
  have c4 := (Av.ext Ee2)
  obtain ⟨cl5, Ar5, q5, Sz5, Ng5, Hs5, Gf5⟩ := id c4
  obtain ⟨_, _, ⟨T6, L6, k6, n6⟩, -, X6, ⟨Lc6, hQ6, l6, y6, z6⟩, st6⟩ := Jvm.LawKit.callS X2 hx (y := (⟨"java/lang/Math", "min", "(II)I"⟩ : MethodName)) hown (mvT hZ (hw _ (List.mem_of_getElem? (i := 89) rfl))) (mvT hZ (hw _ (List.mem_of_getElem? (i := 90) rfl))) (mvT hZ (hw _ (List.mem_of_getElem? (i := 91) rfl))) (mvT hZ (hw _ (List.mem_of_getElem? (i := 92) rfl))) (by decide) (backOf (W := 4) (rmMin l Z a0 hw [] z p1 h2 n0 Zs3 hle) hZ (hw _ (List.mem_of_getElem? (i := 92) rfl)) (hw _ (List.mem_of_getElem? (i := 91) rfl)) (by decide) (by decide)) (g := (mkF m 25 #[.val (.ref ha), .val (.int p1), .val (.ref b2)] [(.int p1), (.int z), (.int (0 : Int32)), (.ref b2), (.int (0 : Int32)), (.ref ha)])) rfl (by rw [hml]; rfl) (argsL := [(.int z), (.int p1)]) (rest := [(.int (0 : Int32)), (.ref b2), (.int (0 : Int32)), (.ref ha)]) (lenOf own_pd2 rfl) rfl (by show 2 * 0 + _ ≤ _; exact Nat.le_of_eq rfl) (hb hby own_d_jdk_65_124_25) (fun _ _ => ⟨rfl, eh2, (by decide : 1 + 0 ≤ _), (by decide : 15 + 0 ≤ _)⟩)
  dsimp only [Pt.U, Pt.locs, Pt.cells, Pt.slots] at X6 l6 y6 z6 st6 hQ6
  subst l6 y6 z6
  obtain ⟨rfl, N6q, eq6⟩ := hQ6
  have N6 := Fr.app N0 N6q
  have Vz7 : Arv Z h2 b2 k2 .long p1 (own_ws (fun _ => 0) p1) (.long (0 : Int64)) := V2.pad (own_ws_zero p1)
  obtain ⟨T8, h8, Lc8, X8, eh8, N8, K8, V8, st8⟩ := cpA X6 hx hZ hown (hw _ (List.mem_of_getElem? (i := 93) rfl)) (hw _ (List.mem_of_getElem? (i := 96) rfl)) (hw _ (List.mem_of_getElem? (i := 94) rfl)) (hw _ (List.mem_of_getElem? (i := 95) rfl)) eq6 c4 Vz7 (Or.inl ⟨rfl, rfl⟩) (by decide) (by decide) zn (Nat.le_of_eq (Nat.zero_add _)) (by rw [show (0 : Int32).toNatClampNeg = 0 from by decide, Nat.zero_add]; exact hleN) rfl (by rw [own_ws_len, show (0 : Int32).toNatClampNeg = 0 from by decide, Nat.zero_add]; exact hleN) N6 gf_b2 (g := (mkF m 28 #[.val (.ref ha), .val (.int p1), .val (.ref b2)] [(.int z), (.int (0 : Int32)), (.ref b2), (.int (0 : Int32)), (.ref ha)])) rfl (by rw [hml]; rfl) rfl (hb hby own_d_jdk_65_124_28) (by decide) (W := 0) (by show 2 * 0 + _ ≤ _; exact Nat.le_of_eq rfl) (by decide)
  have Zs9 : n0 ≤ h8.size := Nat.le_trans Zs3 K8.1
  have Kp9 : Keep h0 h8 [] := Kp3.trans K8 (allS (Or.inr sz_b2) all0)
  have Vc7 : Arv Z h8 b2 k2 .long p1 (own_ws hi p1) (.long (0 : Int64)) := V8.pad (own_ws_copy hz0 hleN)
  obtain ⟨fs, hr, hrun, hended, hW, hsame⟩ := X8.leave (v := some (.ref b2)) (fun h => by rw [Bd.returns] at h; cases h)
  refine ⟨_, _, pre0 _ ?_, hrun, hended, _, _, rfl, ?_, ⟨_, rfl⟩, hW, hsame.mono (by decide) (by decide)⟩
  ·
    show Steps p.tables e below (s₁.setTop (mkF m 0 #[.val (.ref ha), .val (.int p1), .unset] [])) _
    refine XS.iloadN X0.here hx rfl (hb hby own_d_jdk_65_124_0) rfl ?_
    show Steps p.tables e below (s₁.setTop (mkF m 1 #[.val (.ref ha), .val (.int p1), .unset] [(.int p1)])) _
    refine XS.aloadN X0.here hx rfl (hb hby own_d_jdk_65_124_1) rfl rfl ?_
    show Steps p.tables e below (s₁.setTop (mkF m 2 #[.val (.ref ha), .val (.int p1), .unset] [(.ref ha), (.int p1)])) _
    refine X0.arraylength hx (by rw [e0]; exact Ar1.1) (State.isArrayOf_alike hZ.alike Ar1.2.1) (g := (mkF m 2 #[.val (.ref ha), .val (.int p1), .unset] [(.ref ha), (.int p1)])) rfl rfl (hb hby own_d_jdk_65_124_2) _ ?_
    rw [len_of Sz1 Ng1]
    show Steps p.tables e below (s₁.setTop (mkF m 3 #[.val (.ref ha), .val (.int p1), .unset] [(.int z), (.int p1)])) _
    refine XS.icmpYes X0.here hx rfl (pc0 := 3) (pc' := 14) rfl (hb hby own_d_jdk_65_124_3) rfl (feq hne).2 (by decide) (by decide) ?_
    show Steps p.tables e below (s₁.setTop (mkF m 14 #[.val (.ref ha), .val (.int p1), .unset] [])) _
    refine XS.iloadN X0.here hx rfl (hb hby own_d_jdk_65_124_14) rfl ?_
    show Steps p.tables e below (s₁.setTop (mkF m 15 #[.val (.ref ha), .val (.int p1), .unset] [(.int p1)])) _
    refine st2 _ ?_
    show Steps p.tables e below (T2.setTop (mkF m 17 #[.val (.ref ha), .val (.int p1), .unset] [(.ref b2)])) _
    refine XS.astoreN X2.here hx rfl (hb hby own_d_jdk_65_124_17) rfl rfl (l' := #[.val (.ref ha), .val (.int p1), .val (.ref b2)]) rfl ?_
    show Steps p.tables e below (T2.setTop (mkF m 18 #[.val (.ref ha), .val (.int p1), .val (.ref b2)] [])) _
    refine XS.aloadN X2.here hx rfl (hb hby own_d_jdk_65_124_18) rfl rfl ?_
    show Steps p.tables e below (T2.setTop (mkF m 19 #[.val (.ref ha), .val (.int p1), .val (.ref b2)] [(.ref ha)])) _
    refine XS.iconst X2.here hx rfl (hb hby own_d_jdk_65_124_19) ?_
    show Steps p.tables e below (T2.setTop (mkF m 20 #[.val (.ref ha), .val (.int p1), .val (.ref b2)] [(.int (0 : Int32)), (.ref ha)])) _
    refine XS.aloadN X2.here hx rfl (hb hby own_d_jdk_65_124_20) rfl rfl ?_
    show Steps p.tables e below (T2.setTop (mkF m 21 #[.val (.ref ha), .val (.int p1), .val (.ref b2)] [(.ref b2), (.int (0 : Int32)), (.ref ha)])) _
    refine XS.iconst X2.here hx rfl (hb hby own_d_jdk_65_124_21) ?_
    show Steps p.tables e below (T2.setTop (mkF m 22 #[.val (.ref ha), .val (.int p1), .val (.ref b2)] [(.int (0 : Int32)), (.ref b2), (.int (0 : Int32)), (.ref ha)])) _
    refine XS.aloadN X2.here hx rfl (hb hby own_d_jdk_65_124_22) rfl rfl ?_
    show Steps p.tables e below (T2.setTop (mkF m 23 #[.val (.ref ha), .val (.int p1), .val (.ref b2)] [(.ref ha), (.int (0 : Int32)), (.ref b2), (.int (0 : Int32)), (.ref ha)])) _
    refine X2.arraylength hx (by rw [eh2]; exact Ar5.1) (State.isArrayOf_alike hZ.alike Ar5.2.1) (g := (mkF m 23 #[.val (.ref ha), .val (.int p1), .val (.ref b2)] [(.ref ha), (.int (0 : Int32)), (.ref b2), (.int (0 : Int32)), (.ref ha)])) rfl rfl (hb hby own_d_jdk_65_124_23) _ ?_
    rw [len_of Sz5 Ng5]
    show Steps p.tables e below (T2.setTop (mkF m 24 #[.val (.ref ha), .val (.int p1), .val (.ref b2)] [(.int z), (.int (0 : Int32)), (.ref b2), (.int (0 : Int32)), (.ref ha)])) _
    refine XS.iloadN X2.here hx rfl (hb hby own_d_jdk_65_124_24) rfl ?_
    show Steps p.tables e below (T2.setTop (mkF m 25 #[.val (.ref ha), .val (.int p1), .val (.ref b2)] [(.int p1), (.int z), (.int (0 : Int32)), (.ref b2), (.int (0 : Int32)), (.ref ha)])) _
    refine st6 _ ?_
    show Steps p.tables e below (T6.setTop (mkF m 28 #[.val (.ref ha), .val (.int p1), .val (.ref b2)] [(.int z), (.int (0 : Int32)), (.ref b2), (.int (0 : Int32)), (.ref ha)])) _
    refine st8 _ ?_
    show Steps p.tables e below (T8.setTop (mkF m 31 #[.val (.ref ha), .val (.int p1), .val (.ref b2)] [])) _
    refine XS.aloadN X8.here hx rfl (hb hby own_d_jdk_65_124_31) rfl rfl ?_
    show Steps p.tables e below (T8.setTop (mkF m 32 #[.val (.ref ha), .val (.int p1), .val (.ref b2)] [(.ref b2)])) _
    jvm_step X8.here [X8.here.top, hx, (hb hby own_d_jdk_65_124_32), X8.method', Bd.returns, Value.isRef, FieldType.isReference]
    first | (intro acts; rw [hr _ acts rfl rfl rfl]) | rw [hr _ _ rfl rfl rfl]
    exact Steps.refl _
  ·
    show Q_rmCopy Z ha p1 kc z hi h0 n0 (_) T8.heap (_)
    rw [eh8]
    exact ⟨b2, _, rfl, N8, Kp9, sz_b2, gf_b2, Vc7⟩
theorem own_grow {p1 z : Int32} (hk : ¬ p1 < (64 : Int32)) (k1 : p1.toInt < 1024) (hw : ¬ ((p1 / (64 : Int32)) - (1 : Int32)) < z) (zn : ¬ z < 0) : ((p1 / (64 : Int32)) - (1 : Int32)) < ((p1 / (64 : Int32)) - (1 : Int32)) + (1 : Int32) ∧ ¬ ((p1 / (64 : Int32)) - (1 : Int32)) + (1 : Int32) = z ∧ ¬ ((p1 / (64 : Int32)) - (1 : Int32)) + (1 : Int32) < z ∧ ¬ ((p1 / (64 : Int32)) - (1 : Int32)) + (1 : Int32) < 0 ∧
    z.toNatClampNeg ≤ (((p1 / (64 : Int32)) - (1 : Int32)) + (1 : Int32)).toNatClampNeg ∧ (((p1 / (64 : Int32)) - (1 : Int32)) + (1 : Int32)).toNatClampNeg ≤ 15 ∧ (((p1 / (64 : Int32)) - (1 : Int32)) + (1 : Int32)).toInt ≤ 15 := by
  have w1 : ((p1 / (64 : Int32)) - (1 : Int32)).toInt = p1.toInt / 64 - 1 := own_wd_i hk k1
  have h0 := hk
  rw [Int32.lt_iff_toInt_lt] at h0
  have k64 : (64 : Int32).toInt = 64 := by decide
  have k1' : (1 : Int32).toInt = 1 := by decide
  have k0 : (0 : Int32).toInt = 0 := by decide
  have a := c_iadd ((p1 / (64 : Int32)) - (1 : Int32)) 1
  have r := rng32 (((p1 / (64 : Int32)) - (1 : Int32)) + (1 : Int32))
  generalize ((p1 / (64 : Int32)) - (1 : Int32)) = w at *
  have e : (w + 1).toInt = w.toInt + 1 := by omega
  have zi := nat_of zn
  rw [Int32.lt_iff_toInt_lt] at hw
  have nn : ¬ w + 1 < 0 := by rw [Int32.lt_iff_toInt_lt]; omega
  have ni := nat_of nn
  refine ⟨by rw [Int32.lt_iff_toInt_lt]; omega, fun q => by rw [q] at e; omega, by rw [Int32.lt_iff_toInt_lt]; omega, nn, by omega, by omega, by omega⟩
theorem own_adM {M : Int32 → Bool} {k j : Int32} (hm : M k = true) : M j = own_ad true k M j := by
  unfold own_ad
  by_cases q : j = k
  · subst q; simp [hm]
  · simp [q]
theorem own_rmM {M : Int32 → Bool} {k j : Int32} (hm : M k = false) : M j = own_rm k M j := by
  unfold own_rm
  by_cases q : j = k
  · subst q; simp [hm]
  · simp [q]
theorem own_d_prog_31_16_0 : decode prog_31_method_16_code 0 = .ok (.aload_n 0, 1) := by decide +kernel
theorem own_d_prog_31_16_1 : decode prog_31_method_16_code 1 = .ok (.iload_n 1, 1) := by decide +kernel
theorem own_d_prog_31_16_2 : decode prog_31_method_16_code 2 = .ok (.invokevirtual 45, 3) := by decide +kernel
theorem own_pd3 : parseMethodDescriptor "(I)Z" = some ⟨[.int], some .boolean⟩ := by decide +kernel
theorem own_d_prog_31_16_5 : decode prog_31_method_16_code 5 = .ok (.ifCond .ne 7, 3) := by decide +kernel
theorem own_d_prog_31_16_12 : decode prog_31_method_16_code 12 = .ok (.iconst 0, 1) := by decide +kernel
theorem own_d_prog_31_16_13 : decode prog_31_method_16_code 13 = .ok (.istore_n 2, 1) := by decide +kernel
theorem own_d_prog_31_16_14 : decode prog_31_method_16_code 14 = .ok (.iload_n 2, 1) := by decide +kernel
theorem own_d_prog_31_16_15 : decode prog_31_method_16_code 15 = .ok (.ifCond .eq 76, 3) := by decide +kernel
theorem own_d_prog_31_16_91 : decode prog_31_method_16_code 91 = .ok (.iload_n 2, 1) := by decide +kernel
theorem own_d_prog_31_16_92 : decode prog_31_method_16_code 92 = .ok (.ireturn, 1) := by decide +kernel
theorem own_d_prog_31_16_8 : decode prog_31_method_16_code 8 = .ok (.iconst 1, 1) := by decide +kernel
theorem own_d_prog_31_16_9 : decode prog_31_method_16_code 9 = .ok (.goto 4, 3) := by decide +kernel
theorem own_d_prog_31_16_18 : decode prog_31_method_16_code 18 = .ok (.iload_n 1, 1) := by decide +kernel
theorem own_d_prog_31_16_19 : decode prog_31_method_16_code 19 = .ok (.bipush 64, 2) := by decide +kernel
theorem own_d_prog_31_16_21 : decode prog_31_method_16_code 21 = .ok (.if_icmp .ge 18, 3) := by decide +kernel
theorem own_d_prog_31_16_24 : decode prog_31_method_16_code 24 = .ok (.aload_n 0, 1) := by decide +kernel
theorem own_d_prog_31_16_25 : decode prog_31_method_16_code 25 = .ok (.dup, 1) := by decide +kernel
theorem own_d_prog_31_16_26 : decode prog_31_method_16_code 26 = .ok (.getfield 18, 3) := by decide +kernel
theorem own_d_prog_31_16_29 : decode prog_31_method_16_code 29 = .ok (.lconst 1, 1) := by decide +kernel
theorem own_d_prog_31_16_30 : decode prog_31_method_16_code 30 = .ok (.iload_n 1, 1) := by decide +kernel
theorem own_d_prog_31_16_31 : decode prog_31_method_16_code 31 = .ok (.lshl, 1) := by decide +kernel
theorem own_d_prog_31_16_32 : decode prog_31_method_16_code 32 = .ok (.lor, 1) := by decide +kernel
theorem own_d_prog_31_16_33 : decode prog_31_method_16_code 33 = .ok (.putfield 18, 3) := by decide +kernel
theorem own_d_prog_31_16_36 : decode prog_31_method_16_code 36 = .ok (.goto 45, 3) := by decide +kernel
theorem own_d_prog_31_16_81 : decode prog_31_method_16_code 81 = .ok (.aload_n 0, 1) := by decide +kernel
theorem own_d_prog_31_16_82 : decode prog_31_method_16_code 82 = .ok (.dup, 1) := by decide +kernel
theorem own_d_prog_31_16_83 : decode prog_31_method_16_code 83 = .ok (.getfield 35, 3) := by decide +kernel
theorem own_d_prog_31_16_86 : decode prog_31_method_16_code 86 = .ok (.iconst 1, 1) := by decide +kernel
theorem own_d_prog_31_16_87 : decode prog_31_method_16_code 87 = .ok (.iadd, 1) := by decide +kernel
theorem own_d_prog_31_16_88 : decode prog_31_method_16_code 88 = .ok (.putfield 35, 3) := by decide +kernel
theorem own_d_prog_31_16_39 : decode prog_31_method_16_code 39 = .ok (.iload_n 1, 1) := by decide +kernel
theorem own_d_prog_31_16_40 : decode prog_31_method_16_code 40 = .ok (.bipush 64, 2) := by decide +kernel
theorem own_d_prog_31_16_42 : decode prog_31_method_16_code 42 = .ok (.idiv, 1) := by decide +kernel
theorem own_d_prog_31_16_43 : decode prog_31_method_16_code 43 = .ok (.iconst 1, 1) := by decide +kernel
theorem own_d_prog_31_16_44 : decode prog_31_method_16_code 44 = .ok (.isub, 1) := by decide +kernel
theorem own_d_prog_31_16_45 : decode prog_31_method_16_code 45 = .ok (.istore_n 3, 1) := by decide +kernel
theorem own_d_prog_31_16_46 : decode prog_31_method_16_code 46 = .ok (.iload_n 3, 1) := by decide +kernel
theorem own_d_prog_31_16_47 : decode prog_31_method_16_code 47 = .ok (.aload_n 0, 1) := by decide +kernel
theorem own_d_prog_31_16_48 : decode prog_31_method_16_code 48 = .ok (.getfield 15, 3) := by decide +kernel
theorem own_d_prog_31_16_51 : decode prog_31_method_16_code 51 = .ok (.arraylength, 1) := by decide +kernel
theorem own_d_prog_31_16_52 : decode prog_31_method_16_code 52 = .ok (.if_icmp .lt 17, 3) := by decide +kernel
theorem own_d_prog_31_16_69 : decode prog_31_method_16_code 69 = .ok (.aload_n 0, 1) := by decide +kernel
theorem own_d_prog_31_16_70 : decode prog_31_method_16_code 70 = .ok (.getfield 15, 3) := by decide +kernel
theorem own_d_prog_31_16_73 : decode prog_31_method_16_code 73 = .ok (.iload_n 3, 1) := by decide +kernel
theorem own_d_prog_31_16_74 : decode prog_31_method_16_code 74 = .ok (.dup2, 1) := by decide +kernel
theorem own_d_prog_31_16_75 : decode prog_31_method_16_code 75 = .ok (.laload, 1) := by decide +kernel
theorem own_d_prog_31_16_76 : decode prog_31_method_16_code 76 = .ok (.lconst 1, 1) := by decide +kernel
theorem own_d_prog_31_16_77 : decode prog_31_method_16_code 77 = .ok (.iload_n 1, 1) := by decide +kernel
theorem own_d_prog_31_16_78 : decode prog_31_method_16_code 78 = .ok (.lshl, 1) := by decide +kernel
theorem own_d_prog_31_16_79 : decode prog_31_method_16_code 79 = .ok (.lor, 1) := by decide +kernel
theorem own_d_prog_31_16_80 : decode prog_31_method_16_code 80 = .ok (.lastore, 1) := by decide +kernel
theorem own_d_prog_31_16_55 : decode prog_31_method_16_code 55 = .ok (.aload_n 0, 1) := by decide +kernel
theorem own_d_prog_31_16_56 : decode prog_31_method_16_code 56 = .ok (.aload_n 0, 1) := by decide +kernel
theorem own_d_prog_31_16_57 : decode prog_31_method_16_code 57 = .ok (.getfield 15, 3) := by decide +kernel
theorem own_d_prog_31_16_60 : decode prog_31_method_16_code 60 = .ok (.iload_n 3, 1) := by decide +kernel
theorem own_d_prog_31_16_61 : decode prog_31_method_16_code 61 = .ok (.iconst 1, 1) := by decide +kernel
theorem own_d_prog_31_16_62 : decode prog_31_method_16_code 62 = .ok (.iadd, 1) := by decide +kernel
theorem own_d_prog_31_16_63 : decode prog_31_method_16_code 63 = .ok (.invokestatic 72, 3) := by decide +kernel
theorem own_pd4 : parseMethodDescriptor "([JI)[J" = some ⟨[(.array .long), .int], some (.array .long)⟩ := by decide +kernel
theorem own_d_prog_31_16_66 : decode prog_31_method_16_code 66 = .ok (.putfield 15, 3) := by decide +kernel
theorem ef_rmSet (m : MethodId) (a1 : Addr) (p1 : Int32) : entryFrame m #[(.ref a1), (.int p1)] 4 = mkF m 0 #[.val (.ref a1), .val (.int p1), .unset, .unset] [] := by first | (simp [entryFrame, mkF, argsToLocals, Value.category]; done) | rfl
def Q_rmSet (Z : State) (a1 : Addr) (p1 : Int32) (c0 : Nat) (M : Int32 → Bool) (h0 : Heap) (n0 : Nat) (v : Option Value) (h : Heap) (L : List Loc) : Prop := ∃ r, v = some (.int r) ∧ (r = 0 ∨ r = 1) ∧ Fr n0 L ∧ Old Z n0 h ∧ Tg Z h n0 a1 (c0 + 1) (own_ad true p1 M)
set_option maxRecDepth 65536 in
set_option maxHeartbeats 40000000 in
theorem rmSet (l : Launch) (Z : State) (a0 : Array Value) (hw : ∀ d ∈ tables_1, d.before a0 Z = true) (ws : List Jvm.Cond) (a1 : Addr) (p1 : Int32) (c0 : Nat) (M : Int32 → Bool) (h0 : Heap) (n0 : Nat) (Z0 : n0 ≤ h0.size) (TG1 : Tg Z h0 n0 a1 c0 M) (g1 : n0 ≤ a1) (O0 : Old Z n0 h0) (k1 : own_in p1) (hc0 : c0 ≤ 3) :
    MetFree l (⟨"com/example/dramatis/dramatis/analysis/RoleGraph$Targets", "setBit", "(I)Z"⟩ : MethodName) (head1 (Jvm.Cond.code (⟨"com/example/dramatis/dramatis/analysis/RoleGraph$Targets", "setBit", "(I)Z"⟩ : MethodName) prog_31_method_16_code 4 (some .boolean) :: ws) ({ frames := 2, cells := 1, slots := 15, locals := 55 } : Room)) (fun a U => a = #[(.ref a1), (.int p1)] ∧ Z.Warmed39 U.vm ∧ U.heap = h0) (fun _ _ _ _ _ => True) (fun _ U o U' => ∃ v L, o = .returned v ∧ Q_rmSet Z a1 p1 c0 M h0 n0 (v) U'.heap (L) ∧ FrameEnd U o U' L 1 15) := by
  refine MetFree.of_bodySF (plainFor_of_name own_pn4) hisR ?_
  intro p e s m args below meth c s₁ Bd hml0 hP hK
  obtain ⟨rfl, hZ, hh⟩ := hP
  have hx := Bd.exec
  have hby := Bd.bytes
  have hml : c.maxLocals = 4 := hml0
  have hown : s.vm.findClass "com/example/dramatis/dramatis/analysis/RoleGraph$Targets" = some m.cls := findClass_of_methodNamed Bd.named
  have hnm := (name_of_methodNamed Bd.named Bd.method).1
  have X0 : Stand p l e ({ frames := 2, cells := 1, slots := 15, locals := 55 } : Room) s m #[(.ref a1), (.int p1)] below meth c s₁ [] 0 0 := Stand.of_body Bd
  have e0 : s₁.heap = h0 := by rw [← hh, Bd.state]; rfl
  have N0 := Fr.nil n0
  have pre0 : ∀ tgt, Steps p.tables e below (s₁.setTop (mkF m 0 #[.val (.ref a1), .val (.int p1), .unset, .unset] [])) tgt → Steps p.tables e below (s₁.setTop (entryFrame m #[(.ref a1), (.int p1)] 4)) tgt := fun tgt k => castTop (ef_rmSet m a1 p1) k
  have TG0 := TG1
  obtain ⟨lo, ha, kc, z, hi, n, ll, E1, Fl, Fh, Fs, Av, hfr, hzb, hz0, hM, hnd, hmm, hn, hlc⟩ := TG1
  have ne1 : a1 ≠ ha := by obtain ⟨cc, A, -⟩ := Av; exact ne_arr E1 (hw _ (List.mem_of_getElem? (i := 1) rfl)) A
  have zn : ¬ z < 0 := by obtain ⟨cc, -, -, -, q, -⟩ := Av; exact q
  rcases Bool.eq_false_or_eq_true (M p1) with hm | hm
  ·
    obtain ⟨cq1, q1, q1'⟩ := E1.cell
    obtain ⟨_, _, ⟨T1, L1, k1, n1⟩, -, X1, ⟨Lc1, hQ1, l1, y1, z1⟩, st1⟩ := X0.privateBack hx (y := (⟨"com/example/dramatis/dramatis/analysis/RoleGraph$Targets", "has", "(I)Z"⟩ : MethodName)) hown (mvT hZ (hw _ (List.mem_of_getElem? (i := 57) rfl))) (mvT hZ (hw _ (List.mem_of_getElem? (i := 58) rfl))) (own_selPriv (mvT hZ (hw _ (List.mem_of_getElem? (i := 1) rfl))) (Cond.privateMethod_at (mvP hZ (hw _ (List.mem_of_getElem? (i := 59) rfl)) (args := #[]))) (mvT hZ (hw _ (List.mem_of_getElem? (i := 58) rfl))) (by decide)) (Cond.privateMethod_at (mvP hZ (hw _ (List.mem_of_getElem? (i := 59) rfl)) (args := #[]))) (mvT hZ (hw _ (List.mem_of_getElem? (i := 60) rfl))) (by decide) (backOf (W := 0) (rmHas l Z a0 hw [] a1 p1 lo ha kc z hi (1 : Int32) h0 n0 Z0 Fl Fh Av hz0 zn k1 (by rw [hM _ k1, hm]; rfl)) hZ (hw _ (List.mem_of_getElem? (i := 60) rfl)) (hw _ (List.mem_of_getElem? (i := 2) rfl)) (by decide) (by decide)) (g := (mkF m 2 #[.val (.ref a1), .val (.int p1), .unset, .unset] [(.int p1), (.ref a1)])) rfl (by rw [hml]; rfl) (Steps.refl _) (a := a1) (by rw [e0]; exact q1) q1' (argsL := [(.int p1)]) (rest := []) (lenOf own_pd3 rfl) rfl (by show 2 * 0 + _ ≤ _; exact Nat.le_of_eq rfl) (hb hby own_d_prog_31_16_2) (fun _ _ => ⟨rfl, e0, (by decide : 0 + 0 ≤ _), (by decide : 0 + 0 ≤ _)⟩)
    dsimp only [Pt.U, Pt.locs, Pt.cells, Pt.slots] at X1 l1 y1 z1 st1 hQ1
    subst l1 y1 z1
    obtain ⟨rfl, N1q, eq1⟩ := hQ1
    have N1 := Fr.app N0 N1q
    obtain ⟨fs, hr, hrun, hended, hW, hsame⟩ := X1.leave (v := some (.int (0 : Int32))) (fun h => by rw [Bd.returns] at h; cases h)
    refine ⟨_, _, pre0 _ ?_, hrun, hended, _, _, rfl, ?_, ⟨_, rfl⟩, hW, hsame.mono (by decide) (by decide)⟩
    ·
      show Steps p.tables e below (s₁.setTop (mkF m 0 #[.val (.ref a1), .val (.int p1), .unset, .unset] [])) _
      refine XS.aloadN X0.here hx rfl (hb hby own_d_prog_31_16_0) rfl rfl ?_
      show Steps p.tables e below (s₁.setTop (mkF m 1 #[.val (.ref a1), .val (.int p1), .unset, .unset] [(.ref a1)])) _
      refine XS.iloadN X0.here hx rfl (hb hby own_d_prog_31_16_1) rfl ?_
      show Steps p.tables e below (s₁.setTop (mkF m 2 #[.val (.ref a1), .val (.int p1), .unset, .unset] [(.int p1), (.ref a1)])) _
      refine st1.trans ?_
      show Steps p.tables e below (T1.setTop (mkF m 5 #[.val (.ref a1), .val (.int p1), .unset, .unset] [(.int (1 : Int32))])) _
      refine XS.ifYes X1.here hx rfl (pc0 := 5) (pc' := 12) rfl (hb hby own_d_prog_31_16_5) rfl ((if0 _ _).trans (feq (by decide : ¬ ((1 : Int32) = (0 : Int32)))).2) (by decide) (by decide) ?_
      show Steps p.tables e below (T1.setTop (mkF m 12 #[.val (.ref a1), .val (.int p1), .unset, .unset] [])) _
      refine XS.iconst X1.here hx rfl (hb hby own_d_prog_31_16_12) ?_
      show Steps p.tables e below (T1.setTop (mkF m 13 #[.val (.ref a1), .val (.int p1), .unset, .unset] [(.int (0 : Int32))])) _
      refine XS.istoreN X1.here hx rfl (hb hby own_d_prog_31_16_13) rfl (l' := #[.val (.ref a1), .val (.int p1), .val (.int (0 : Int32)), .unset]) rfl ?_
      show Steps p.tables e below (T1.setTop (mkF m 14 #[.val (.ref a1), .val (.int p1), .val (.int (0 : Int32)), .unset] [])) _
      refine XS.iloadN X1.here hx rfl (hb hby own_d_prog_31_16_14) rfl ?_
      show Steps p.tables e below (T1.setTop (mkF m 15 #[.val (.ref a1), .val (.int p1), .val (.int (0 : Int32)), .unset] [(.int (0 : Int32))])) _
      refine XS.ifYes X1.here hx rfl (pc0 := 15) (pc' := 91) rfl (hb hby own_d_prog_31_16_15) rfl ((if0 _ _).trans (teq (by decide : (0 : Int32) = (0 : Int32))).1) (by decide) (by decide) ?_
      show Steps p.tables e below (T1.setTop (mkF m 91 #[.val (.ref a1), .val (.int p1), .val (.int (0 : Int32)), .unset] [])) _
      refine XS.iloadN X1.here hx rfl (hb hby own_d_prog_31_16_91) rfl ?_
      show Steps p.tables e below (T1.setTop (mkF m 92 #[.val (.ref a1), .val (.int p1), .val (.int (0 : Int32)), .unset] [(.int (0 : Int32))])) _
      exact retN X1 hx (t := .boolean) Bd.returns (by simp) (hb hby own_d_prog_31_16_92) hr
    ·
      show Q_rmSet Z a1 p1 c0 M h0 n0 (_) T1.heap (_)
      rw [eq1]
      exact ⟨_, rfl, Or.inl rfl, N1, O0, (Tg.congr TG0 (Nat.le_succ _) (fun j _ => own_adM hm))⟩
  ·
    obtain ⟨cq2, q2, q2'⟩ := E1.cell
    obtain ⟨_, _, ⟨T2, L2, k2, n2⟩, -, X2, ⟨Lc2, hQ2, l2, y2, z2⟩, st2⟩ := X0.privateBack hx (y := (⟨"com/example/dramatis/dramatis/analysis/RoleGraph$Targets", "has", "(I)Z"⟩ : MethodName)) hown (mvT hZ (hw _ (List.mem_of_getElem? (i := 57) rfl))) (mvT hZ (hw _ (List.mem_of_getElem? (i := 58) rfl))) (own_selPriv (mvT hZ (hw _ (List.mem_of_getElem? (i := 1) rfl))) (Cond.privateMethod_at (mvP hZ (hw _ (List.mem_of_getElem? (i := 59) rfl)) (args := #[]))) (mvT hZ (hw _ (List.mem_of_getElem? (i := 58) rfl))) (by decide)) (Cond.privateMethod_at (mvP hZ (hw _ (List.mem_of_getElem? (i := 59) rfl)) (args := #[]))) (mvT hZ (hw _ (List.mem_of_getElem? (i := 60) rfl))) (by decide) (backOf (W := 0) (rmHas l Z a0 hw [] a1 p1 lo ha kc z hi (0 : Int32) h0 n0 Z0 Fl Fh Av hz0 zn k1 (by rw [hM _ k1, hm]; rfl)) hZ (hw _ (List.mem_of_getElem? (i := 60) rfl)) (hw _ (List.mem_of_getElem? (i := 2) rfl)) (by decide) (by decide)) (g := (mkF m 2 #[.val (.ref a1), .val (.int p1), .unset, .unset] [(.int p1), (.ref a1)])) rfl (by rw [hml]; rfl) (Steps.refl _) (a := a1) (by rw [e0]; exact q2) q2' (argsL := [(.int p1)]) (rest := []) (lenOf own_pd3 rfl) rfl (by show 2 * 0 + _ ≤ _; exact Nat.le_of_eq rfl) (hb hby own_d_prog_31_16_2) (fun _ _ => ⟨rfl, e0, (by decide : 0 + 0 ≤ _), (by decide : 0 + 0 ≤ _)⟩)
    dsimp only [Pt.U, Pt.locs, Pt.cells, Pt.slots] at X2 l2 y2 z2 st2 hQ2
    subst l2 y2 z2
    obtain ⟨rfl, N2q, eq2⟩ := hQ2
    have N2 := Fr.app N0 N2q
    have pre3 : ∀ tgt, Steps p.tables e below (T2.setTop (mkF m 21 #[.val (.ref a1), .val (.int p1), .val (.int (1 : Int32)), .unset] [(.int (64 : Int32)), (.int p1)])) tgt → Steps p.tables e below (s₁.setTop (entryFrame m #[(.ref a1), (.int p1)] 4)) tgt := fun tgt kt_ => by
      refine pre0 _ ?_
      show Steps p.tables e below (s₁.setTop (mkF m 0 #[.val (.ref a1), .val (.int p1), .unset, .unset] [])) _
      refine XS.aloadN X0.here hx rfl (hb hby own_d_prog_31_16_0) rfl rfl ?_
      show Steps p.tables e below (s₁.setTop (mkF m 1 #[.val (.ref a1), .val (.int p1), .unset, .unset] [(.ref a1)])) _
      refine XS.iloadN X0.here hx rfl (hb hby own_d_prog_31_16_1) rfl ?_
      show Steps p.tables e below (s₁.setTop (mkF m 2 #[.val (.ref a1), .val (.int p1), .unset, .unset] [(.int p1), (.ref a1)])) _
      refine st2.trans ?_
      show Steps p.tables e below (T2.setTop (mkF m 5 #[.val (.ref a1), .val (.int p1), .unset, .unset] [(.int (0 : Int32))])) _
      refine XS.ifNo X2.here hx rfl (hb hby own_d_prog_31_16_5) rfl ((if0 _ _).trans (teq (by decide : (0 : Int32) = (0 : Int32))).2) ?_
      show Steps p.tables e below (T2.setTop (mkF m 8 #[.val (.ref a1), .val (.int p1), .unset, .unset] [])) _
      refine XS.iconst X2.here hx rfl (hb hby own_d_prog_31_16_8) ?_
      show Steps p.tables e below (T2.setTop (mkF m 9 #[.val (.ref a1), .val (.int p1), .unset, .unset] [(.int (1 : Int32))])) _
      refine XS.goto X2.here hx rfl (pc0 := 9) (pc' := 13) rfl (hb hby own_d_prog_31_16_9) (by decide) (by decide) ?_
      show Steps p.tables e below (T2.setTop (mkF m 13 #[.val (.ref a1), .val (.int p1), .unset, .unset] [(.int (1 : Int32))])) _
      refine XS.istoreN X2.here hx rfl (hb hby own_d_prog_31_16_13) rfl (l' := #[.val (.ref a1), .val (.int p1), .val (.int (1 : Int32)), .unset]) rfl ?_
      show Steps p.tables e below (T2.setTop (mkF m 14 #[.val (.ref a1), .val (.int p1), .val (.int (1 : Int32)), .unset] [])) _
      refine XS.iloadN X2.here hx rfl (hb hby own_d_prog_31_16_14) rfl ?_
      show Steps p.tables e below (T2.setTop (mkF m 15 #[.val (.ref a1), .val (.int p1), .val (.int (1 : Int32)), .unset] [(.int (1 : Int32))])) _
      refine XS.ifNo X2.here hx rfl (hb hby own_d_prog_31_16_15) rfl ((if0 _ _).trans (feq (by decide : ¬ ((1 : Int32) = (0 : Int32)))).1) ?_
      show Steps p.tables e below (T2.setTop (mkF m 18 #[.val (.ref a1), .val (.int p1), .val (.int (1 : Int32)), .unset] [])) _
      refine XS.iloadN X2.here hx rfl (hb hby own_d_prog_31_16_18) rfl ?_
      show Steps p.tables e below (T2.setTop (mkF m 19 #[.val (.ref a1), .val (.int p1), .val (.int (1 : Int32)), .unset] [(.int p1)])) _
      refine XS.bipush X2.here hx rfl (hb hby own_d_prog_31_16_19) ?_
      show Steps p.tables e below (T2.setTop (mkF m 21 #[.val (.ref a1), .val (.int p1), .val (.int (1 : Int32)), .unset] [(.int (64 : Int32)), (.int p1)])) _
      exact kt_
    rcases Decidable.em (p1 < (64 : Int32)) with hc21_4 | hc21_4
    ·
      obtain ⟨T5, X5, eh5, st5⟩ := getF X2 hx hZ hown (host := "") (Or.inl (hw _ (List.mem_of_getElem? (i := 61) rfl))) Via.refl eq2 Fl (g := (mkF m 26 #[.val (.ref a1), .val (.int p1), .val (.int (1 : Int32)), .unset] [(.ref a1), (.ref a1)])) rfl rfl (hb hby own_d_prog_31_16_26)
      obtain ⟨T6, h6, X6, eh6, W6, st6⟩ := putF X5 hx hZ hown (host := "") (Or.inl (hw _ (List.mem_of_getElem? (i := 61) rfl))) Via.refl eh5 Fl E1 (Or.inl (hw _ (List.mem_of_getElem? (i := 62) rfl))) (hw _ (List.mem_of_getElem? (i := 1) rfl)) (ty := .long) (by decide) rfl rfl (g := (mkF m 33 #[.val (.ref a1), .val (.int p1), .val (.int (1 : Int32)), .unset] [(.long (lo ||| ((1 : Int64) <<< (p1 &&& 0x3f).toInt64))), (.ref a1)])) rfl rfl (hb hby own_d_prog_31_16_33)
      have Fw6 := Fl.same W6
      have Zs7 : n0 ≤ h6.size := Nat.le_trans Z0 (Nat.le_of_eq W6.size.symm)
      have N7 := Fr.snoc X6 N2 g1
      have O7 := O0.wr W6 g1
      have c8 := (Fs.other W6 (Or.inr (slot_ne (Or.inl (hw _ (List.mem_of_getElem? (i := 30) rfl))) (Or.inl (hw _ (List.mem_of_getElem? (i := 62) rfl))) (by decide) (t := .int) (t' := .long) (by decide) (by decide))))
      obtain ⟨T9, X9, eh9, st9⟩ := getF X6 hx hZ hown (host := "") (Or.inl (hw _ (List.mem_of_getElem? (i := 29) rfl))) Via.refl eh6 c8 (g := (mkF m 83 #[.val (.ref a1), .val (.int p1), .val (.int (1 : Int32)), .unset] [(.ref a1), (.ref a1)])) rfl rfl (hb hby own_d_prog_31_16_83)
      have c10 := (E1.wr W6)
      obtain ⟨T11, h11, X11, eh11, W11, st11⟩ := putF X9 hx hZ hown (host := "") (Or.inl (hw _ (List.mem_of_getElem? (i := 29) rfl))) Via.refl eh9 c8 c10 (Or.inl (hw _ (List.mem_of_getElem? (i := 30) rfl))) (hw _ (List.mem_of_getElem? (i := 1) rfl)) (ty := .int) (by decide) rfl rfl (g := (mkF m 88 #[.val (.ref a1), .val (.int p1), .val (.int (1 : Int32)), .unset] [(.int (n + (1 : Int32))), (.ref a1)])) rfl rfl (hb hby own_d_prog_31_16_88)
      have Fw11 := c8.same W11
      have Zs12 : n0 ≤ h11.size := Nat.le_trans Zs7 (Nat.le_of_eq W11.size.symm)
      have N12 := Fr.snoc X11 N7 g1
      have O12 := O7.wr W11 g1
      obtain ⟨fs, hr, hrun, hended, hW, hsame⟩ := X11.leave (v := some (.int (1 : Int32))) (fun h => by rw [Bd.returns] at h; cases h)
      refine ⟨_, _, pre3 _ ?_, hrun, hended, _, _, rfl, ?_, ⟨_, rfl⟩, hW, hsame.mono (by decide) (by decide)⟩
      ·
        show Steps p.tables e below (T2.setTop (mkF m 21 #[.val (.ref a1), .val (.int p1), .val (.int (1 : Int32)), .unset] [(.int (64 : Int32)), (.int p1)])) _
        refine XS.icmpNo X2.here hx rfl (hb hby own_d_prog_31_16_21) rfl (tlt hc21_4).2.1 ?_
        show Steps p.tables e below (T2.setTop (mkF m 24 #[.val (.ref a1), .val (.int p1), .val (.int (1 : Int32)), .unset] [])) _
        refine XS.aloadN X2.here hx rfl (hb hby own_d_prog_31_16_24) rfl rfl ?_
        show Steps p.tables e below (T2.setTop (mkF m 25 #[.val (.ref a1), .val (.int p1), .val (.int (1 : Int32)), .unset] [(.ref a1)])) _
        refine XS.dup X2.here hx rfl (hb hby own_d_prog_31_16_25) rfl rfl ?_
        show Steps p.tables e below (T2.setTop (mkF m 26 #[.val (.ref a1), .val (.int p1), .val (.int (1 : Int32)), .unset] [(.ref a1), (.ref a1)])) _
        refine st5 _ ?_
        show Steps p.tables e below (T5.setTop (mkF m 29 #[.val (.ref a1), .val (.int p1), .val (.int (1 : Int32)), .unset] [(.long lo), (.ref a1)])) _
        refine XS.lconst X5.here hx rfl (hb hby own_d_prog_31_16_29) ?_
        show Steps p.tables e below (T5.setTop (mkF m 30 #[.val (.ref a1), .val (.int p1), .val (.int (1 : Int32)), .unset] [(.long (1 : Int64)), (.long lo), (.ref a1)])) _
        refine XS.iloadN X5.here hx rfl (hb hby own_d_prog_31_16_30) rfl ?_
        show Steps p.tables e below (T5.setTop (mkF m 31 #[.val (.ref a1), .val (.int p1), .val (.int (1 : Int32)), .unset] [(.int p1), (.long (1 : Int64)), (.long lo), (.ref a1)])) _
        refine XS.lshl X5.here hx rfl (hb hby own_d_prog_31_16_31) rfl ?_
        show Steps p.tables e below (T5.setTop (mkF m 32 #[.val (.ref a1), .val (.int p1), .val (.int (1 : Int32)), .unset] [(.long ((1 : Int64) <<< (p1 &&& 0x3f).toInt64)), (.long lo), (.ref a1)])) _
        refine XS.lor X5.here hx rfl (hb hby own_d_prog_31_16_32) rfl ?_
        show Steps p.tables e below (T5.setTop (mkF m 33 #[.val (.ref a1), .val (.int p1), .val (.int (1 : Int32)), .unset] [(.long (lo ||| ((1 : Int64) <<< (p1 &&& 0x3f).toInt64))), (.ref a1)])) _
        refine st6 _ ?_
        show Steps p.tables e below (T6.setTop (mkF m 36 #[.val (.ref a1), .val (.int p1), .val (.int (1 : Int32)), .unset] [])) _
        refine XS.goto X6.here hx rfl (pc0 := 36) (pc' := 81) rfl (hb hby own_d_prog_31_16_36) (by decide) (by decide) ?_
        show Steps p.tables e below (T6.setTop (mkF m 81 #[.val (.ref a1), .val (.int p1), .val (.int (1 : Int32)), .unset] [])) _
        refine XS.aloadN X6.here hx rfl (hb hby own_d_prog_31_16_81) rfl rfl ?_
        show Steps p.tables e below (T6.setTop (mkF m 82 #[.val (.ref a1), .val (.int p1), .val (.int (1 : Int32)), .unset] [(.ref a1)])) _
        refine XS.dup X6.here hx rfl (hb hby own_d_prog_31_16_82) rfl rfl ?_
        show Steps p.tables e below (T6.setTop (mkF m 83 #[.val (.ref a1), .val (.int p1), .val (.int (1 : Int32)), .unset] [(.ref a1), (.ref a1)])) _
        refine st9 _ ?_
        show Steps p.tables e below (T9.setTop (mkF m 86 #[.val (.ref a1), .val (.int p1), .val (.int (1 : Int32)), .unset] [(.int n), (.ref a1)])) _
        refine XS.iconst X9.here hx rfl (hb hby own_d_prog_31_16_86) ?_
        show Steps p.tables e below (T9.setTop (mkF m 87 #[.val (.ref a1), .val (.int p1), .val (.int (1 : Int32)), .unset] [(.int (1 : Int32)), (.int n), (.ref a1)])) _
        refine XS.iadd X9.here hx rfl (hb hby own_d_prog_31_16_87) rfl ?_
        show Steps p.tables e below (T9.setTop (mkF m 88 #[.val (.ref a1), .val (.int p1), .val (.int (1 : Int32)), .unset] [(.int (n + (1 : Int32))), (.ref a1)])) _
        refine st11 _ ?_
        show Steps p.tables e below (T11.setTop (mkF m 91 #[.val (.ref a1), .val (.int p1), .val (.int (1 : Int32)), .unset] [])) _
        refine XS.iloadN X11.here hx rfl (hb hby own_d_prog_31_16_91) rfl ?_
        show Steps p.tables e below (T11.setTop (mkF m 92 #[.val (.ref a1), .val (.int p1), .val (.int (1 : Int32)), .unset] [(.int (1 : Int32))])) _
        exact retN X11 hx (t := .boolean) Bd.returns (by simp) (hb hby own_d_prog_31_16_92) hr
      ·
        show Q_rmSet Z a1 p1 c0 M h0 n0 (_) T11.heap (_)
        rw [eh11]
        have c13 := ((Fh.other W6 (Or.inr (slot_ne (Or.inl (hw _ (List.mem_of_getElem? (i := 23) rfl))) (Or.inl (hw _ (List.mem_of_getElem? (i := 62) rfl))) (by decide) (t := (.array .long)) (t' := .long) (by decide) (by decide)))).other W11 (Or.inr (slot_ne (Or.inl (hw _ (List.mem_of_getElem? (i := 23) rfl))) (Or.inl (hw _ (List.mem_of_getElem? (i := 30) rfl))) (by decide) (t := (.array .long)) (t' := .int) (by decide) (by decide))))
        have c14 := ((Av.other W6 (Ne.symm ne1)).other W11 (Ne.symm ne1))
        have c15 := (Fw6.other W11 (Or.inr (slot_ne (Or.inl (hw _ (List.mem_of_getElem? (i := 62) rfl))) (Or.inl (hw _ (List.mem_of_getElem? (i := 30) rfl))) (by decide) (t := .long) (t' := .int) (by decide) (by decide))))
        have Cd := own_card_add hnd hmm hm k1 hn hlc hc0
        have c16 := (c10.wr W11)
        exact ⟨_, rfl, Or.inr rfl, N12, O12, (lo ||| ((1 : Int64) <<< (p1 &&& 0x3f).toInt64)), ha, _, z, hi, (n + (1 : Int32)), (p1 :: ll), c16, c15, c13, Fw11, c14, hfr, hzb, hz0, (fun j hj => (own_set_lo hc21_4 k1.1 hj.1).trans (by rw [hM j hj]; rfl)), Cd.1, Cd.2.1, Cd.2.2.1, Cd.2.2.2⟩
    ·
      obtain ⟨T17, X17, eh17, st17⟩ := getF X2 hx hZ hown (host := "") (Or.inl (hw _ (List.mem_of_getElem? (i := 22) rfl))) Via.refl eq2 Fh (g := (mkF m 48 #[.val (.ref a1), .val (.int p1), .val (.int (1 : Int32)), .val (.int ((p1 / (64 : Int32)) - (1 : Int32)))] [(.ref a1), (.int ((p1 / (64 : Int32)) - (1 : Int32)))])) rfl rfl (hb hby own_d_prog_31_16_48)
      obtain ⟨cl18, Ar18, q18, Sz18, Ng18, Hs18, Gf18⟩ := id Av
      have pre19 : ∀ tgt, Steps p.tables e below (T17.setTop (mkF m 52 #[.val (.ref a1), .val (.int p1), .val (.int (1 : Int32)), .val (.int ((p1 / (64 : Int32)) - (1 : Int32)))] [(.int z), (.int ((p1 / (64 : Int32)) - (1 : Int32)))])) tgt → Steps p.tables e below (s₁.setTop (entryFrame m #[(.ref a1), (.int p1)] 4)) tgt := fun tgt kt_ => by
        refine pre3 _ ?_
        show Steps p.tables e below (T2.setTop (mkF m 21 #[.val (.ref a1), .val (.int p1), .val (.int (1 : Int32)), .unset] [(.int (64 : Int32)), (.int p1)])) _
        refine XS.icmpYes X2.here hx rfl (pc0 := 21) (pc' := 39) rfl (hb hby own_d_prog_31_16_21) rfl (flt hc21_4).2.1 (by decide) (by decide) ?_
        show Steps p.tables e below (T2.setTop (mkF m 39 #[.val (.ref a1), .val (.int p1), .val (.int (1 : Int32)), .unset] [])) _
        refine XS.iloadN X2.here hx rfl (hb hby own_d_prog_31_16_39) rfl ?_
        show Steps p.tables e below (T2.setTop (mkF m 40 #[.val (.ref a1), .val (.int p1), .val (.int (1 : Int32)), .unset] [(.int p1)])) _
        refine XS.bipush X2.here hx rfl (hb hby own_d_prog_31_16_40) ?_
        show Steps p.tables e below (T2.setTop (mkF m 42 #[.val (.ref a1), .val (.int p1), .val (.int (1 : Int32)), .unset] [(.int (64 : Int32)), (.int p1)])) _
        refine XS.idiv X2.here hx rfl (hb hby own_d_prog_31_16_42) rfl (by decide) ?_
        show Steps p.tables e below (T2.setTop (mkF m 43 #[.val (.ref a1), .val (.int p1), .val (.int (1 : Int32)), .unset] [(.int (p1 / (64 : Int32)))])) _
        refine XS.iconst X2.here hx rfl (hb hby own_d_prog_31_16_43) ?_
        show Steps p.tables e below (T2.setTop (mkF m 44 #[.val (.ref a1), .val (.int p1), .val (.int (1 : Int32)), .unset] [(.int (1 : Int32)), (.int (p1 / (64 : Int32)))])) _
        refine XS.isub X2.here hx rfl (hb hby own_d_prog_31_16_44) rfl ?_
        show Steps p.tables e below (T2.setTop (mkF m 45 #[.val (.ref a1), .val (.int p1), .val (.int (1 : Int32)), .unset] [(.int ((p1 / (64 : Int32)) - (1 : Int32)))])) _
        refine XS.istoreN X2.here hx rfl (hb hby own_d_prog_31_16_45) rfl (l' := #[.val (.ref a1), .val (.int p1), .val (.int (1 : Int32)), .val (.int ((p1 / (64 : Int32)) - (1 : Int32)))]) rfl ?_
        show Steps p.tables e below (T2.setTop (mkF m 46 #[.val (.ref a1), .val (.int p1), .val (.int (1 : Int32)), .val (.int ((p1 / (64 : Int32)) - (1 : Int32)))] [])) _
        refine XS.iloadN X2.here hx rfl (hb hby own_d_prog_31_16_46) rfl ?_
        show Steps p.tables e below (T2.setTop (mkF m 47 #[.val (.ref a1), .val (.int p1), .val (.int (1 : Int32)), .val (.int ((p1 / (64 : Int32)) - (1 : Int32)))] [(.int ((p1 / (64 : Int32)) - (1 : Int32)))])) _
        refine XS.aloadN X2.here hx rfl (hb hby own_d_prog_31_16_47) rfl rfl ?_
        show Steps p.tables e below (T2.setTop (mkF m 48 #[.val (.ref a1), .val (.int p1), .val (.int (1 : Int32)), .val (.int ((p1 / (64 : Int32)) - (1 : Int32)))] [(.ref a1), (.int ((p1 / (64 : Int32)) - (1 : Int32)))])) _
        refine st17 _ ?_
        show Steps p.tables e below (T17.setTop (mkF m 51 #[.val (.ref a1), .val (.int p1), .val (.int (1 : Int32)), .val (.int ((p1 / (64 : Int32)) - (1 : Int32)))] [(.ref ha), (.int ((p1 / (64 : Int32)) - (1 : Int32)))])) _
        refine X17.arraylength hx (by rw [eh17]; exact Ar18.1) (State.isArrayOf_alike hZ.alike Ar18.2.1) (g := (mkF m 51 #[.val (.ref a1), .val (.int p1), .val (.int (1 : Int32)), .val (.int ((p1 / (64 : Int32)) - (1 : Int32)))] [(.ref ha), (.int ((p1 / (64 : Int32)) - (1 : Int32)))])) rfl rfl (hb hby own_d_prog_31_16_51) _ ?_
        rw [len_of Sz18 Ng18]
        show Steps p.tables e below (T17.setTop (mkF m 52 #[.val (.ref a1), .val (.int p1), .val (.int (1 : Int32)), .val (.int ((p1 / (64 : Int32)) - (1 : Int32)))] [(.int z), (.int ((p1 / (64 : Int32)) - (1 : Int32)))])) _
        exact kt_
      rcases Decidable.em (((p1 / (64 : Int32)) - (1 : Int32)) < z) with hc52_20 | hc52_20
      ·
        obtain ⟨T21, X21, eh21, st21⟩ := getF X17 hx hZ hown (host := "") (Or.inl (hw _ (List.mem_of_getElem? (i := 22) rfl))) Via.refl eh17 Fh (g := (mkF m 70 #[.val (.ref a1), .val (.int p1), .val (.int (1 : Int32)), .val (.int ((p1 / (64 : Int32)) - (1 : Int32)))] [(.ref a1)])) rfl rfl (hb hby own_d_prog_31_16_70)
        obtain ⟨cl22, Ar22, q22, Sz22, Ng22, Hs22, Gf22⟩ := id Av
        have hin22 := inb_of Sz22 (j := ((p1 / (64 : Int32)) - (1 : Int32))) ⟨own_wd_nn hc21_4 k1.2, hc52_20⟩
        obtain ⟨cl23, Ar23, q23, Sz23, Ng23, Hs23, Gf23⟩ := id Av
        have nn23 : ¬ ((p1 / (64 : Int32)) - (1 : Int32)) < 0 := own_wd_nn hc21_4 k1.2
        have lt23 : ((p1 / (64 : Int32)) - (1 : Int32)) < z := hc52_20
        have hin23 := inb_of Sz23 (j := ((p1 / (64 : Int32)) - (1 : Int32))) ⟨nn23, lt23⟩
        have gha23 : n0 ≤ ha := own_gha hfr nn23 lt23
        obtain ⟨T23, h23, X23, eh23, W23, st23⟩ := stJ X21 hx hZ eh21 Ar23 (j := ((p1 / (64 : Int32)) - (1 : Int32))) hin23 (g := (mkF m 80 #[.val (.ref a1), .val (.int p1), .val (.int (1 : Int32)), .val (.int ((p1 / (64 : Int32)) - (1 : Int32)))] [(.long ((hi ((p1 / (64 : Int32)) - (1 : Int32)).toNatClampNeg) ||| ((1 : Int64) <<< (p1 &&& 0x3f).toInt64))), (.int ((p1 / (64 : Int32)) - (1 : Int32))), (.ref ha)])) rfl rfl (hb hby own_d_prog_31_16_80)
        have Zs24 : n0 ≤ h23.size := Nat.le_trans Z0 (Nat.le_of_eq W23.size.symm)
        have N24 := Fr.snoc X23 N2 gha23
        have O24 := O0.wr W23 gha23
        have V23 : Arv Z h23 ha kc .long z (own_ws (own_upd hi ((p1 / (64 : Int32)) - (1 : Int32)).toNatClampNeg ((hi ((p1 / (64 : Int32)) - (1 : Int32)).toNatClampNeg) ||| ((1 : Int64) <<< (p1 &&& 0x3f).toInt64))) z) (.long (0 : Int64)) := (Arv.set Ar23 q23 Sz23 Ng23 Hs23 Gf23 rfl W23 ((p1 / (64 : Int32)) - (1 : Int32)).toNatClampNeg rfl (by rw [own_ws_len]; exact own_ltN nn23 lt23)).pad (own_ws_set hz0 (own_ltN nn23 lt23) _)
        have c25 := (Fs.other W23 (Or.inl ne1))
        obtain ⟨T26, X26, eh26, st26⟩ := getF X23 hx hZ hown (host := "") (Or.inl (hw _ (List.mem_of_getElem? (i := 29) rfl))) Via.refl eh23 c25 (g := (mkF m 83 #[.val (.ref a1), .val (.int p1), .val (.int (1 : Int32)), .val (.int ((p1 / (64 : Int32)) - (1 : Int32)))] [(.ref a1), (.ref a1)])) rfl rfl (hb hby own_d_prog_31_16_83)
        have c27 := (E1.wr W23)
        obtain ⟨T28, h28, X28, eh28, W28, st28⟩ := putF X26 hx hZ hown (host := "") (Or.inl (hw _ (List.mem_of_getElem? (i := 29) rfl))) Via.refl eh26 c25 c27 (Or.inl (hw _ (List.mem_of_getElem? (i := 30) rfl))) (hw _ (List.mem_of_getElem? (i := 1) rfl)) (ty := .int) (by decide) rfl rfl (g := (mkF m 88 #[.val (.ref a1), .val (.int p1), .val (.int (1 : Int32)), .val (.int ((p1 / (64 : Int32)) - (1 : Int32)))] [(.int (n + (1 : Int32))), (.ref a1)])) rfl rfl (hb hby own_d_prog_31_16_88)
        have Fw28 := c25.same W28
        have Zs29 : n0 ≤ h28.size := Nat.le_trans Zs24 (Nat.le_of_eq W28.size.symm)
        have N29 := Fr.snoc X28 N24 g1
        have O29 := O24.wr W28 g1
        obtain ⟨fs, hr, hrun, hended, hW, hsame⟩ := X28.leave (v := some (.int (1 : Int32))) (fun h => by rw [Bd.returns] at h; cases h)
        refine ⟨_, _, pre19 _ ?_, hrun, hended, _, _, rfl, ?_, ⟨_, rfl⟩, hW, hsame.mono (by decide) (by decide)⟩
        ·
          show Steps p.tables e below (T17.setTop (mkF m 52 #[.val (.ref a1), .val (.int p1), .val (.int (1 : Int32)), .val (.int ((p1 / (64 : Int32)) - (1 : Int32)))] [(.int z), (.int ((p1 / (64 : Int32)) - (1 : Int32)))])) _
          refine XS.icmpYes X17.here hx rfl (pc0 := 52) (pc' := 69) rfl (hb hby own_d_prog_31_16_52) rfl (tlt hc52_20).1 (by decide) (by decide) ?_
          show Steps p.tables e below (T17.setTop (mkF m 69 #[.val (.ref a1), .val (.int p1), .val (.int (1 : Int32)), .val (.int ((p1 / (64 : Int32)) - (1 : Int32)))] [])) _
          refine XS.aloadN X17.here hx rfl (hb hby own_d_prog_31_16_69) rfl rfl ?_
          show Steps p.tables e below (T17.setTop (mkF m 70 #[.val (.ref a1), .val (.int p1), .val (.int (1 : Int32)), .val (.int ((p1 / (64 : Int32)) - (1 : Int32)))] [(.ref a1)])) _
          refine st21 _ ?_
          show Steps p.tables e below (T21.setTop (mkF m 73 #[.val (.ref a1), .val (.int p1), .val (.int (1 : Int32)), .val (.int ((p1 / (64 : Int32)) - (1 : Int32)))] [(.ref ha)])) _
          refine XS.iloadN X21.here hx rfl (hb hby own_d_prog_31_16_73) rfl ?_
          show Steps p.tables e below (T21.setTop (mkF m 74 #[.val (.ref a1), .val (.int p1), .val (.int (1 : Int32)), .val (.int ((p1 / (64 : Int32)) - (1 : Int32)))] [(.int ((p1 / (64 : Int32)) - (1 : Int32))), (.ref ha)])) _
          refine Jvm.Free.XT.dup2 X21.here hx rfl (hb hby own_d_prog_31_16_74) rfl rfl rfl ?_
          show Steps p.tables e below (T21.setTop (mkF m 75 #[.val (.ref a1), .val (.int p1), .val (.int (1 : Int32)), .val (.int ((p1 / (64 : Int32)) - (1 : Int32)))] [(.int ((p1 / (64 : Int32)) - (1 : Int32))), (.ref ha), (.int ((p1 / (64 : Int32)) - (1 : Int32))), (.ref ha)])) _
          refine X21.laload hx (j := ((p1 / (64 : Int32)) - (1 : Int32))) (v := (.long (hi ((p1 / (64 : Int32)) - (1 : Int32)).toNatClampNeg))) (by rw [eh21]; exact Ar22.1) (State.isArrayOf_alike hZ.alike Ar22.2.1) Ar22.2.2 hin22 (Hs22.at hin22 (own_ws_get hz0 _)) (g := (mkF m 75 #[.val (.ref a1), .val (.int p1), .val (.int (1 : Int32)), .val (.int ((p1 / (64 : Int32)) - (1 : Int32)))] [(.int ((p1 / (64 : Int32)) - (1 : Int32))), (.ref ha), (.int ((p1 / (64 : Int32)) - (1 : Int32))), (.ref ha)])) rfl rfl (hb hby own_d_prog_31_16_75) _ ?_
          show Steps p.tables e below (T21.setTop (mkF m 76 #[.val (.ref a1), .val (.int p1), .val (.int (1 : Int32)), .val (.int ((p1 / (64 : Int32)) - (1 : Int32)))] [(.long (hi ((p1 / (64 : Int32)) - (1 : Int32)).toNatClampNeg)), (.int ((p1 / (64 : Int32)) - (1 : Int32))), (.ref ha)])) _
          refine XS.lconst X21.here hx rfl (hb hby own_d_prog_31_16_76) ?_
          show Steps p.tables e below (T21.setTop (mkF m 77 #[.val (.ref a1), .val (.int p1), .val (.int (1 : Int32)), .val (.int ((p1 / (64 : Int32)) - (1 : Int32)))] [(.long (1 : Int64)), (.long (hi ((p1 / (64 : Int32)) - (1 : Int32)).toNatClampNeg)), (.int ((p1 / (64 : Int32)) - (1 : Int32))), (.ref ha)])) _
          refine XS.iloadN X21.here hx rfl (hb hby own_d_prog_31_16_77) rfl ?_
          show Steps p.tables e below (T21.setTop (mkF m 78 #[.val (.ref a1), .val (.int p1), .val (.int (1 : Int32)), .val (.int ((p1 / (64 : Int32)) - (1 : Int32)))] [(.int p1), (.long (1 : Int64)), (.long (hi ((p1 / (64 : Int32)) - (1 : Int32)).toNatClampNeg)), (.int ((p1 / (64 : Int32)) - (1 : Int32))), (.ref ha)])) _
          refine XS.lshl X21.here hx rfl (hb hby own_d_prog_31_16_78) rfl ?_
          show Steps p.tables e below (T21.setTop (mkF m 79 #[.val (.ref a1), .val (.int p1), .val (.int (1 : Int32)), .val (.int ((p1 / (64 : Int32)) - (1 : Int32)))] [(.long ((1 : Int64) <<< (p1 &&& 0x3f).toInt64)), (.long (hi ((p1 / (64 : Int32)) - (1 : Int32)).toNatClampNeg)), (.int ((p1 / (64 : Int32)) - (1 : Int32))), (.ref ha)])) _
          refine XS.lor X21.here hx rfl (hb hby own_d_prog_31_16_79) rfl ?_
          show Steps p.tables e below (T21.setTop (mkF m 80 #[.val (.ref a1), .val (.int p1), .val (.int (1 : Int32)), .val (.int ((p1 / (64 : Int32)) - (1 : Int32)))] [(.long ((hi ((p1 / (64 : Int32)) - (1 : Int32)).toNatClampNeg) ||| ((1 : Int64) <<< (p1 &&& 0x3f).toInt64))), (.int ((p1 / (64 : Int32)) - (1 : Int32))), (.ref ha)])) _
          refine st23 _ ?_
          show Steps p.tables e below (T23.setTop (mkF m 81 #[.val (.ref a1), .val (.int p1), .val (.int (1 : Int32)), .val (.int ((p1 / (64 : Int32)) - (1 : Int32)))] [])) _
          refine XS.aloadN X23.here hx rfl (hb hby own_d_prog_31_16_81) rfl rfl ?_
          show Steps p.tables e below (T23.setTop (mkF m 82 #[.val (.ref a1), .val (.int p1), .val (.int (1 : Int32)), .val (.int ((p1 / (64 : Int32)) - (1 : Int32)))] [(.ref a1)])) _
          refine XS.dup X23.here hx rfl (hb hby own_d_prog_31_16_82) rfl rfl ?_
          show Steps p.tables e below (T23.setTop (mkF m 83 #[.val (.ref a1), .val (.int p1), .val (.int (1 : Int32)), .val (.int ((p1 / (64 : Int32)) - (1 : Int32)))] [(.ref a1), (.ref a1)])) _
          refine st26 _ ?_
          show Steps p.tables e below (T26.setTop (mkF m 86 #[.val (.ref a1), .val (.int p1), .val (.int (1 : Int32)), .val (.int ((p1 / (64 : Int32)) - (1 : Int32)))] [(.int n), (.ref a1)])) _
          refine XS.iconst X26.here hx rfl (hb hby own_d_prog_31_16_86) ?_
          show Steps p.tables e below (T26.setTop (mkF m 87 #[.val (.ref a1), .val (.int p1), .val (.int (1 : Int32)), .val (.int ((p1 / (64 : Int32)) - (1 : Int32)))] [(.int (1 : Int32)), (.int n), (.ref a1)])) _
          refine XS.iadd X26.here hx rfl (hb hby own_d_prog_31_16_87) rfl ?_
          show Steps p.tables e below (T26.setTop (mkF m 88 #[.val (.ref a1), .val (.int p1), .val (.int (1 : Int32)), .val (.int ((p1 / (64 : Int32)) - (1 : Int32)))] [(.int (n + (1 : Int32))), (.ref a1)])) _
          refine st28 _ ?_
          show Steps p.tables e below (T28.setTop (mkF m 91 #[.val (.ref a1), .val (.int p1), .val (.int (1 : Int32)), .val (.int ((p1 / (64 : Int32)) - (1 : Int32)))] [])) _
          refine XS.iloadN X28.here hx rfl (hb hby own_d_prog_31_16_91) rfl ?_
          show Steps p.tables e below (T28.setTop (mkF m 92 #[.val (.ref a1), .val (.int p1), .val (.int (1 : Int32)), .val (.int ((p1 / (64 : Int32)) - (1 : Int32)))] [(.int (1 : Int32))])) _
          exact retN X28 hx (t := .boolean) Bd.returns (by simp) (hb hby own_d_prog_31_16_92) hr
        ·
          show Q_rmSet Z a1 p1 c0 M h0 n0 (_) T28.heap (_)
          rw [eh28]
          have c30 := ((Fh.other W23 (Or.inl ne1)).other W28 (Or.inr (slot_ne (Or.inl (hw _ (List.mem_of_getElem? (i := 23) rfl))) (Or.inl (hw _ (List.mem_of_getElem? (i := 30) rfl))) (by decide) (t := (.array .long)) (t' := .int) (by decide) (by decide))))
          have c31 := (V23.other W28 (Ne.symm ne1))
          have c32 := ((Fl.other W23 (Or.inl ne1)).other W28 (Or.inr (slot_ne (Or.inl (hw _ (List.mem_of_getElem? (i := 62) rfl))) (Or.inl (hw _ (List.mem_of_getElem? (i := 30) rfl))) (by decide) (t := .long) (t' := .int) (by decide) (by decide))))
          have Cd := own_card_add hnd hmm hm k1 hn hlc hc0
          have c33 := (c27.wr W28)
          exact ⟨_, rfl, Or.inr rfl, N29, O29, lo, ha, _, z, (own_upd hi ((p1 / (64 : Int32)) - (1 : Int32)).toNatClampNeg ((hi ((p1 / (64 : Int32)) - (1 : Int32)).toNatClampNeg) ||| ((1 : Int64) <<< (p1 &&& 0x3f).toInt64))), (n + (1 : Int32)), (p1 :: ll), c33, c32, c30, Fw28, c31, hfr, hzb, (own_upd_z hz0 (own_ltN nn23 lt23)), (fun j hj => (own_set_hi hc21_4 k1.2 hj.1 hj.2).trans (by rw [hM j hj]; rfl)), Cd.1, Cd.2.1, Cd.2.2.1, Cd.2.2.2⟩
      ·
        obtain ⟨T34, X34, eh34, st34⟩ := getF X17 hx hZ hown (host := "") (Or.inl (hw _ (List.mem_of_getElem? (i := 22) rfl))) Via.refl eh17 Fh (g := (mkF m 57 #[.val (.ref a1), .val (.int p1), .val (.int (1 : Int32)), .val (.int ((p1 / (64 : Int32)) - (1 : Int32)))] [(.ref a1), (.ref a1)])) rfl rfl (hb hby own_d_prog_31_16_57)
        have hcp := own_grow hc21_4 k1.2 hc52_20 zn
        obtain ⟨_, _, ⟨T35, L35, k35, n35⟩, -, X35, ⟨Lc35, hQ35, l35, y35, z35⟩, st35⟩ := Jvm.LawKit.callS X34 hx (y := (⟨"java/util/Arrays", "copyOf", "([JI)[J"⟩ : MethodName)) hown (mvT hZ (hw _ (List.mem_of_getElem? (i := 84) rfl))) (mvT hZ (hw _ (List.mem_of_getElem? (i := 85) rfl))) (mvT hZ (hw _ (List.mem_of_getElem? (i := 86) rfl))) (mvT hZ (hw _ (List.mem_of_getElem? (i := 87) rfl))) (by decide) (backOf (W := 1) (rmCopy l Z a0 hw [] ha (((p1 / (64 : Int32)) - (1 : Int32)) + (1 : Int32)) kc z hi h0 n0 Z0 Av hz0 zn hcp.2.1 hcp.2.2.1 hcp.2.2.2.1 hcp.2.2.2.2.1 hcp.2.2.2.2.2.1) hZ (hw _ (List.mem_of_getElem? (i := 87) rfl)) (hw _ (List.mem_of_getElem? (i := 86) rfl)) (by decide) (by decide)) (g := (mkF m 63 #[.val (.ref a1), .val (.int p1), .val (.int (1 : Int32)), .val (.int ((p1 / (64 : Int32)) - (1 : Int32)))] [(.int (((p1 / (64 : Int32)) - (1 : Int32)) + (1 : Int32))), (.ref ha), (.ref a1)])) rfl (by rw [hml]; rfl) (argsL := [(.ref ha), (.int (((p1 / (64 : Int32)) - (1 : Int32)) + (1 : Int32)))]) (rest := [(.ref a1)]) (lenOf own_pd4 rfl) rfl (by show 2 * 0 + _ ≤ _; exact Nat.le_of_eq rfl) (hb hby own_d_prog_31_16_63) (fun _ _ => ⟨rfl, eh34, (by decide : 0 + 1 ≤ _), (by decide : 0 + 15 ≤ _)⟩)
        dsimp only [Pt.U, Pt.locs, Pt.cells, Pt.slots] at X35 l35 y35 z35 st35 hQ35
        subst l35 y35 z35
        obtain ⟨b35, kb35, rfl, N35q, K35, sb35, gb35, Vb35⟩ := hQ35
        have N35 := Fr.app N2 N35q
        have Zs36 : n0 ≤ T35.heap.size := Nat.le_trans Z0 K35.1
        have O36 := O0.keep K35 all0
        have ne_b35 : a1 ≠ b35 := Nat.ne_of_lt (Nat.lt_of_lt_of_le E1.lt sb35)
        have c37 := (Fh.keep K35 nin0)
        have c38 := (E1.keep K35)
        obtain ⟨T39, h39, X39, eh39, W39, st39⟩ := putF X35 hx hZ hown (host := "") (Or.inl (hw _ (List.mem_of_getElem? (i := 22) rfl))) Via.refl rfl c37 c38 (Or.inl (hw _ (List.mem_of_getElem? (i := 23) rfl))) (hw _ (List.mem_of_getElem? (i := 1) rfl)) (ty := (.array .long)) (by decide) rfl rfl (g := (mkF m 66 #[.val (.ref a1), .val (.int p1), .val (.int (1 : Int32)), .val (.int ((p1 / (64 : Int32)) - (1 : Int32)))] [(.ref b35), (.ref a1)])) rfl rfl (hb hby own_d_prog_31_16_66)
        have Fw39 := c37.same W39
        have Zs40 : n0 ≤ h39.size := Nat.le_trans Zs36 (Nat.le_of_eq W39.size.symm)
        have N40 := Fr.snoc X39 N35 g1
        have O40 := O36.wr W39 g1
        obtain ⟨T41, X41, eh41, st41⟩ := getF X39 hx hZ hown (host := "") (Or.inl (hw _ (List.mem_of_getElem? (i := 22) rfl))) Via.refl eh39 Fw39 (g := (mkF m 70 #[.val (.ref a1), .val (.int p1), .val (.int (1 : Int32)), .val (.int ((p1 / (64 : Int32)) - (1 : Int32)))] [(.ref a1)])) rfl rfl (hb hby own_d_prog_31_16_70)
        have c42 := (Vb35.other W39 (Ne.symm ne_b35))
        obtain ⟨cl43, Ar43, q43, Sz43, Ng43, Hs43, Gf43⟩ := id c42
        have hin43 := inb_of Sz43 (j := ((p1 / (64 : Int32)) - (1 : Int32))) ⟨own_wd_nn hc21_4 k1.2, hcp.1⟩
        obtain ⟨cl44, Ar44, q44, Sz44, Ng44, Hs44, Gf44⟩ := id c42
        have nn44 : ¬ ((p1 / (64 : Int32)) - (1 : Int32)) < 0 := own_wd_nn hc21_4 k1.2
        have lt44 : ((p1 / (64 : Int32)) - (1 : Int32)) < (((p1 / (64 : Int32)) - (1 : Int32)) + (1 : Int32)) := hcp.1
        have hin44 := inb_of Sz44 (j := ((p1 / (64 : Int32)) - (1 : Int32))) ⟨nn44, lt44⟩
        obtain ⟨T44, h44, X44, eh44, W44, st44⟩ := stJ X41 hx hZ eh41 Ar44 (j := ((p1 / (64 : Int32)) - (1 : Int32))) hin44 (g := (mkF m 80 #[.val (.ref a1), .val (.int p1), .val (.int (1 : Int32)), .val (.int ((p1 / (64 : Int32)) - (1 : Int32)))] [(.long ((hi ((p1 / (64 : Int32)) - (1 : Int32)).toNatClampNeg) ||| ((1 : Int64) <<< (p1 &&& 0x3f).toInt64))), (.int ((p1 / (64 : Int32)) - (1 : Int32))), (.ref b35)])) rfl rfl (hb hby own_d_prog_31_16_80)
        have Zs45 : n0 ≤ h44.size := Nat.le_trans Zs40 (Nat.le_of_eq W44.size.symm)
        have N45 := Fr.snoc X44 N40 gb35
        have O45 := O40.wr W44 gb35
        have V44 : Arv Z h44 b35 kb35 .long (((p1 / (64 : Int32)) - (1 : Int32)) + (1 : Int32)) (own_ws (own_upd hi ((p1 / (64 : Int32)) - (1 : Int32)).toNatClampNeg ((hi ((p1 / (64 : Int32)) - (1 : Int32)).toNatClampNeg) ||| ((1 : Int64) <<< (p1 &&& 0x3f).toInt64))) (((p1 / (64 : Int32)) - (1 : Int32)) + (1 : Int32))) (.long (0 : Int64)) := (Arv.set Ar44 q44 Sz44 Ng44 Hs44 Gf44 rfl W44 ((p1 / (64 : Int32)) - (1 : Int32)).toNatClampNeg rfl (by rw [own_ws_len]; exact own_ltN nn44 lt44)).pad (own_ws_set (fun i q => hz0 i (Nat.le_trans hcp.2.2.2.2.1 q)) (own_ltN nn44 lt44) _)
        have c46 := (((Fs.keep K35 nin0).other W39 (Or.inr (slot_ne (Or.inl (hw _ (List.mem_of_getElem? (i := 30) rfl))) (Or.inl (hw _ (List.mem_of_getElem? (i := 23) rfl))) (by decide) (t := .int) (t' := (.array .long)) (by decide) (by decide)))).other W44 (Or.inl ne_b35))
        obtain ⟨T47, X47, eh47, st47⟩ := getF X44 hx hZ hown (host := "") (Or.inl (hw _ (List.mem_of_getElem? (i := 29) rfl))) Via.refl eh44 c46 (g := (mkF m 83 #[.val (.ref a1), .val (.int p1), .val (.int (1 : Int32)), .val (.int ((p1 / (64 : Int32)) - (1 : Int32)))] [(.ref a1), (.ref a1)])) rfl rfl (hb hby own_d_prog_31_16_83)
        have c48 := ((c38.wr W39).wr W44)
        obtain ⟨T49, h49, X49, eh49, W49, st49⟩ := putF X47 hx hZ hown (host := "") (Or.inl (hw _ (List.mem_of_getElem? (i := 29) rfl))) Via.refl eh47 c46 c48 (Or.inl (hw _ (List.mem_of_getElem? (i := 30) rfl))) (hw _ (List.mem_of_getElem? (i := 1) rfl)) (ty := .int) (by decide) rfl rfl (g := (mkF m 88 #[.val (.ref a1), .val (.int p1), .val (.int (1 : Int32)), .val (.int ((p1 / (64 : Int32)) - (1 : Int32)))] [(.int (n + (1 : Int32))), (.ref a1)])) rfl rfl (hb hby own_d_prog_31_16_88)
        have Fw49 := c46.same W49
        have Zs50 : n0 ≤ h49.size := Nat.le_trans Zs45 (Nat.le_of_eq W49.size.symm)
        have N50 := Fr.snoc X49 N45 g1
        have O50 := O45.wr W49 g1
        obtain ⟨fs, hr, hrun, hended, hW, hsame⟩ := X49.leave (v := some (.int (1 : Int32))) (fun h => by rw [Bd.returns] at h; cases h)
        refine ⟨_, _, pre19 _ ?_, hrun, hended, _, _, rfl, ?_, ⟨_, rfl⟩, hW, hsame.mono (by decide) (by decide)⟩
        ·
          show Steps p.tables e below (T17.setTop (mkF m 52 #[.val (.ref a1), .val (.int p1), .val (.int (1 : Int32)), .val (.int ((p1 / (64 : Int32)) - (1 : Int32)))] [(.int z), (.int ((p1 / (64 : Int32)) - (1 : Int32)))])) _
          refine XS.icmpNo X17.here hx rfl (hb hby own_d_prog_31_16_52) rfl (flt hc52_20).1 ?_
          show Steps p.tables e below (T17.setTop (mkF m 55 #[.val (.ref a1), .val (.int p1), .val (.int (1 : Int32)), .val (.int ((p1 / (64 : Int32)) - (1 : Int32)))] [])) _
          refine XS.aloadN X17.here hx rfl (hb hby own_d_prog_31_16_55) rfl rfl ?_
          show Steps p.tables e below (T17.setTop (mkF m 56 #[.val (.ref a1), .val (.int p1), .val (.int (1 : Int32)), .val (.int ((p1 / (64 : Int32)) - (1 : Int32)))] [(.ref a1)])) _
          refine XS.aloadN X17.here hx rfl (hb hby own_d_prog_31_16_56) rfl rfl ?_
          show Steps p.tables e below (T17.setTop (mkF m 57 #[.val (.ref a1), .val (.int p1), .val (.int (1 : Int32)), .val (.int ((p1 / (64 : Int32)) - (1 : Int32)))] [(.ref a1), (.ref a1)])) _
          refine st34 _ ?_
          show Steps p.tables e below (T34.setTop (mkF m 60 #[.val (.ref a1), .val (.int p1), .val (.int (1 : Int32)), .val (.int ((p1 / (64 : Int32)) - (1 : Int32)))] [(.ref ha), (.ref a1)])) _
          refine XS.iloadN X34.here hx rfl (hb hby own_d_prog_31_16_60) rfl ?_
          show Steps p.tables e below (T34.setTop (mkF m 61 #[.val (.ref a1), .val (.int p1), .val (.int (1 : Int32)), .val (.int ((p1 / (64 : Int32)) - (1 : Int32)))] [(.int ((p1 / (64 : Int32)) - (1 : Int32))), (.ref ha), (.ref a1)])) _
          refine XS.iconst X34.here hx rfl (hb hby own_d_prog_31_16_61) ?_
          show Steps p.tables e below (T34.setTop (mkF m 62 #[.val (.ref a1), .val (.int p1), .val (.int (1 : Int32)), .val (.int ((p1 / (64 : Int32)) - (1 : Int32)))] [(.int (1 : Int32)), (.int ((p1 / (64 : Int32)) - (1 : Int32))), (.ref ha), (.ref a1)])) _
          refine XS.iadd X34.here hx rfl (hb hby own_d_prog_31_16_62) rfl ?_
          show Steps p.tables e below (T34.setTop (mkF m 63 #[.val (.ref a1), .val (.int p1), .val (.int (1 : Int32)), .val (.int ((p1 / (64 : Int32)) - (1 : Int32)))] [(.int (((p1 / (64 : Int32)) - (1 : Int32)) + (1 : Int32))), (.ref ha), (.ref a1)])) _
          refine st35 _ ?_
          show Steps p.tables e below (T35.setTop (mkF m 66 #[.val (.ref a1), .val (.int p1), .val (.int (1 : Int32)), .val (.int ((p1 / (64 : Int32)) - (1 : Int32)))] [(.ref b35), (.ref a1)])) _
          refine st39 _ ?_
          show Steps p.tables e below (T39.setTop (mkF m 69 #[.val (.ref a1), .val (.int p1), .val (.int (1 : Int32)), .val (.int ((p1 / (64 : Int32)) - (1 : Int32)))] [])) _
          refine XS.aloadN X39.here hx rfl (hb hby own_d_prog_31_16_69) rfl rfl ?_
          show Steps p.tables e below (T39.setTop (mkF m 70 #[.val (.ref a1), .val (.int p1), .val (.int (1 : Int32)), .val (.int ((p1 / (64 : Int32)) - (1 : Int32)))] [(.ref a1)])) _
          refine st41 _ ?_
          show Steps p.tables e below (T41.setTop (mkF m 73 #[.val (.ref a1), .val (.int p1), .val (.int (1 : Int32)), .val (.int ((p1 / (64 : Int32)) - (1 : Int32)))] [(.ref b35)])) _
          refine XS.iloadN X41.here hx rfl (hb hby own_d_prog_31_16_73) rfl ?_
          show Steps p.tables e below (T41.setTop (mkF m 74 #[.val (.ref a1), .val (.int p1), .val (.int (1 : Int32)), .val (.int ((p1 / (64 : Int32)) - (1 : Int32)))] [(.int ((p1 / (64 : Int32)) - (1 : Int32))), (.ref b35)])) _
          refine Jvm.Free.XT.dup2 X41.here hx rfl (hb hby own_d_prog_31_16_74) rfl rfl rfl ?_
          show Steps p.tables e below (T41.setTop (mkF m 75 #[.val (.ref a1), .val (.int p1), .val (.int (1 : Int32)), .val (.int ((p1 / (64 : Int32)) - (1 : Int32)))] [(.int ((p1 / (64 : Int32)) - (1 : Int32))), (.ref b35), (.int ((p1 / (64 : Int32)) - (1 : Int32))), (.ref b35)])) _
          refine X41.laload hx (j := ((p1 / (64 : Int32)) - (1 : Int32))) (v := (.long (hi ((p1 / (64 : Int32)) - (1 : Int32)).toNatClampNeg))) (by rw [eh41]; exact Ar43.1) (State.isArrayOf_alike hZ.alike Ar43.2.1) Ar43.2.2 hin43 (Hs43.at hin43 (own_ws_get (fun i q => hz0 i (Nat.le_trans hcp.2.2.2.2.1 q)) _)) (g := (mkF m 75 #[.val (.ref a1), .val (.int p1), .val (.int (1 : Int32)), .val (.int ((p1 / (64 : Int32)) - (1 : Int32)))] [(.int ((p1 / (64 : Int32)) - (1 : Int32))), (.ref b35), (.int ((p1 / (64 : Int32)) - (1 : Int32))), (.ref b35)])) rfl rfl (hb hby own_d_prog_31_16_75) _ ?_
          show Steps p.tables e below (T41.setTop (mkF m 76 #[.val (.ref a1), .val (.int p1), .val (.int (1 : Int32)), .val (.int ((p1 / (64 : Int32)) - (1 : Int32)))] [(.long (hi ((p1 / (64 : Int32)) - (1 : Int32)).toNatClampNeg)), (.int ((p1 / (64 : Int32)) - (1 : Int32))), (.ref b35)])) _
          refine XS.lconst X41.here hx rfl (hb hby own_d_prog_31_16_76) ?_
          show Steps p.tables e below (T41.setTop (mkF m 77 #[.val (.ref a1), .val (.int p1), .val (.int (1 : Int32)), .val (.int ((p1 / (64 : Int32)) - (1 : Int32)))] [(.long (1 : Int64)), (.long (hi ((p1 / (64 : Int32)) - (1 : Int32)).toNatClampNeg)), (.int ((p1 / (64 : Int32)) - (1 : Int32))), (.ref b35)])) _
          refine XS.iloadN X41.here hx rfl (hb hby own_d_prog_31_16_77) rfl ?_
          show Steps p.tables e below (T41.setTop (mkF m 78 #[.val (.ref a1), .val (.int p1), .val (.int (1 : Int32)), .val (.int ((p1 / (64 : Int32)) - (1 : Int32)))] [(.int p1), (.long (1 : Int64)), (.long (hi ((p1 / (64 : Int32)) - (1 : Int32)).toNatClampNeg)), (.int ((p1 / (64 : Int32)) - (1 : Int32))), (.ref b35)])) _
          refine XS.lshl X41.here hx rfl (hb hby own_d_prog_31_16_78) rfl ?_
          show Steps p.tables e below (T41.setTop (mkF m 79 #[.val (.ref a1), .val (.int p1), .val (.int (1 : Int32)), .val (.int ((p1 / (64 : Int32)) - (1 : Int32)))] [(.long ((1 : Int64) <<< (p1 &&& 0x3f).toInt64)), (.long (hi ((p1 / (64 : Int32)) - (1 : Int32)).toNatClampNeg)), (.int ((p1 / (64 : Int32)) - (1 : Int32))), (.ref b35)])) _
          refine XS.lor X41.here hx rfl (hb hby own_d_prog_31_16_79) rfl ?_
          show Steps p.tables e below (T41.setTop (mkF m 80 #[.val (.ref a1), .val (.int p1), .val (.int (1 : Int32)), .val (.int ((p1 / (64 : Int32)) - (1 : Int32)))] [(.long ((hi ((p1 / (64 : Int32)) - (1 : Int32)).toNatClampNeg) ||| ((1 : Int64) <<< (p1 &&& 0x3f).toInt64))), (.int ((p1 / (64 : Int32)) - (1 : Int32))), (.ref b35)])) _
          refine st44 _ ?_
          show Steps p.tables e below (T44.setTop (mkF m 81 #[.val (.ref a1), .val (.int p1), .val (.int (1 : Int32)), .val (.int ((p1 / (64 : Int32)) - (1 : Int32)))] [])) _
          refine XS.aloadN X44.here hx rfl (hb hby own_d_prog_31_16_81) rfl rfl ?_
          show Steps p.tables e below (T44.setTop (mkF m 82 #[.val (.ref a1), .val (.int p1), .val (.int (1 : Int32)), .val (.int ((p1 / (64 : Int32)) - (1 : Int32)))] [(.ref a1)])) _
          refine XS.dup X44.here hx rfl (hb hby own_d_prog_31_16_82) rfl rfl ?_
          show Steps p.tables e below (T44.setTop (mkF m 83 #[.val (.ref a1), .val (.int p1), .val (.int (1 : Int32)), .val (.int ((p1 / (64 : Int32)) - (1 : Int32)))] [(.ref a1), (.ref a1)])) _
          refine st47 _ ?_
          show Steps p.tables e below (T47.setTop (mkF m 86 #[.val (.ref a1), .val (.int p1), .val (.int (1 : Int32)), .val (.int ((p1 / (64 : Int32)) - (1 : Int32)))] [(.int n), (.ref a1)])) _
          refine XS.iconst X47.here hx rfl (hb hby own_d_prog_31_16_86) ?_
          show Steps p.tables e below (T47.setTop (mkF m 87 #[.val (.ref a1), .val (.int p1), .val (.int (1 : Int32)), .val (.int ((p1 / (64 : Int32)) - (1 : Int32)))] [(.int (1 : Int32)), (.int n), (.ref a1)])) _
          refine XS.iadd X47.here hx rfl (hb hby own_d_prog_31_16_87) rfl ?_
          show Steps p.tables e below (T47.setTop (mkF m 88 #[.val (.ref a1), .val (.int p1), .val (.int (1 : Int32)), .val (.int ((p1 / (64 : Int32)) - (1 : Int32)))] [(.int (n + (1 : Int32))), (.ref a1)])) _
          refine st49 _ ?_
          show Steps p.tables e below (T49.setTop (mkF m 91 #[.val (.ref a1), .val (.int p1), .val (.int (1 : Int32)), .val (.int ((p1 / (64 : Int32)) - (1 : Int32)))] [])) _
          refine XS.iloadN X49.here hx rfl (hb hby own_d_prog_31_16_91) rfl ?_
          show Steps p.tables e below (T49.setTop (mkF m 92 #[.val (.ref a1), .val (.int p1), .val (.int (1 : Int32)), .val (.int ((p1 / (64 : Int32)) - (1 : Int32)))] [(.int (1 : Int32))])) _
          exact retN X49 hx (t := .boolean) Bd.returns (by simp) (hb hby own_d_prog_31_16_92) hr
        ·
          show Q_rmSet Z a1 p1 c0 M h0 n0 (_) T49.heap (_)
          rw [eh49]
          have c51 := ((Fw39.other W44 (Or.inl ne_b35)).other W49 (Or.inr (slot_ne (Or.inl (hw _ (List.mem_of_getElem? (i := 23) rfl))) (Or.inl (hw _ (List.mem_of_getElem? (i := 30) rfl))) (by decide) (t := (.array .long)) (t' := .int) (by decide) (by decide))))
          have c52 := (V44.other W49 (Ne.symm ne_b35))
          have c53 := ((((Fl.keep K35 nin0).other W39 (Or.inr (slot_ne (Or.inl (hw _ (List.mem_of_getElem? (i := 62) rfl))) (Or.inl (hw _ (List.mem_of_getElem? (i := 23) rfl))) (by decide) (t := .long) (t' := (.array .long)) (by decide) (by decide)))).other W44 (Or.inl ne_b35)).other W49 (Or.inr (slot_ne (Or.inl (hw _ (List.mem_of_getElem? (i := 62) rfl))) (Or.inl (hw _ (List.mem_of_getElem? (i := 30) rfl))) (by decide) (t := .long) (t' := .int) (by decide) (by decide))))
          have Cd := own_card_add hnd hmm hm k1 hn hlc hc0
          have c54 := (c48.wr W49)
          exact ⟨_, rfl, Or.inr rfl, N50, O50, lo, b35, _, (((p1 / (64 : Int32)) - (1 : Int32)) + (1 : Int32)), (own_upd hi ((p1 / (64 : Int32)) - (1 : Int32)).toNatClampNeg ((hi ((p1 / (64 : Int32)) - (1 : Int32)).toNatClampNeg) ||| ((1 : Int64) <<< (p1 &&& 0x3f).toInt64))), (n + (1 : Int32)), (p1 :: ll), c54, c53, c51, Fw49, c52, (Or.inl gb35), hcp.2.2.2.2.2.2, (own_upd_z (fun i q => hz0 i (Nat.le_trans hcp.2.2.2.2.1 q)) (own_ltN nn44 lt44)), (fun j hj => (own_set_hi hc21_4 k1.2 hj.1 hj.2).trans (by rw [hM j hj]; rfl)), Cd.1, Cd.2.1, Cd.2.2.1, Cd.2.2.2⟩
theorem own_d_prog_31_18_0 : decode prog_31_method_18_code 0 = .ok (.iload_n 1, 1) := by decide +kernel
theorem own_d_prog_31_18_1 : decode prog_31_method_18_code 1 = .ok (.bipush 64, 2) := by decide +kernel
theorem own_d_prog_31_18_3 : decode prog_31_method_18_code 3 = .ok (.if_icmp .ge 22, 3) := by decide +kernel
theorem own_d_prog_31_18_6 : decode prog_31_method_18_code 6 = .ok (.aload_n 0, 1) := by decide +kernel
theorem own_d_prog_31_18_7 : decode prog_31_method_18_code 7 = .ok (.dup, 1) := by decide +kernel
theorem own_d_prog_31_18_8 : decode prog_31_method_18_code 8 = .ok (.getfield 18, 3) := by decide +kernel
theorem own_d_prog_31_18_11 : decode prog_31_method_18_code 11 = .ok (.lconst 1, 1) := by decide +kernel
theorem own_d_prog_31_18_12 : decode prog_31_method_18_code 12 = .ok (.iload_n 1, 1) := by decide +kernel
theorem own_d_prog_31_18_13 : decode prog_31_method_18_code 13 = .ok (.lshl, 1) := by decide +kernel
theorem own_d_prog_31_18_14 : decode prog_31_method_18_code 14 = .ok (.ldc2_w 57, 3) := by decide +kernel
theorem own_d_prog_31_18_17 : decode prog_31_method_18_code 17 = .ok (.lxor, 1) := by decide +kernel
theorem own_d_prog_31_18_18 : decode prog_31_method_18_code 18 = .ok (.land, 1) := by decide +kernel
theorem own_d_prog_31_18_19 : decode prog_31_method_18_code 19 = .ok (.putfield 18, 3) := by decide +kernel
theorem own_d_prog_31_18_22 : decode prog_31_method_18_code 22 = .ok (.goto 24, 3) := by decide +kernel
theorem own_d_prog_31_18_46 : decode prog_31_method_18_code 46 = .ok (.aload_n 0, 1) := by decide +kernel
theorem own_d_prog_31_18_47 : decode prog_31_method_18_code 47 = .ok (.dup, 1) := by decide +kernel
theorem own_d_prog_31_18_48 : decode prog_31_method_18_code 48 = .ok (.getfield 35, 3) := by decide +kernel
theorem own_d_prog_31_18_51 : decode prog_31_method_18_code 51 = .ok (.iconst 1, 1) := by decide +kernel
theorem own_d_prog_31_18_52 : decode prog_31_method_18_code 52 = .ok (.isub, 1) := by decide +kernel
theorem own_d_prog_31_18_53 : decode prog_31_method_18_code 53 = .ok (.putfield 35, 3) := by decide +kernel
theorem own_d_prog_31_18_56 : decode prog_31_method_18_code 56 = .ok (.return_, 1) := by decide +kernel
theorem own_d_prog_31_18_25 : decode prog_31_method_18_code 25 = .ok (.aload_n 0, 1) := by decide +kernel
theorem own_d_prog_31_18_26 : decode prog_31_method_18_code 26 = .ok (.getfield 15, 3) := by decide +kernel
theorem own_d_prog_31_18_29 : decode prog_31_method_18_code 29 = .ok (.iload_n 1, 1) := by decide +kernel
theorem own_d_prog_31_18_30 : decode prog_31_method_18_code 30 = .ok (.bipush 64, 2) := by decide +kernel
theorem own_d_prog_31_18_32 : decode prog_31_method_18_code 32 = .ok (.idiv, 1) := by decide +kernel
theorem own_d_prog_31_18_33 : decode prog_31_method_18_code 33 = .ok (.iconst 1, 1) := by decide +kernel
theorem own_d_prog_31_18_34 : decode prog_31_method_18_code 34 = .ok (.isub, 1) := by decide +kernel
theorem own_d_prog_31_18_35 : decode prog_31_method_18_code 35 = .ok (.dup2, 1) := by decide +kernel
theorem own_d_prog_31_18_36 : decode prog_31_method_18_code 36 = .ok (.laload, 1) := by decide +kernel
theorem own_d_prog_31_18_37 : decode prog_31_method_18_code 37 = .ok (.lconst 1, 1) := by decide +kernel
theorem own_d_prog_31_18_38 : decode prog_31_method_18_code 38 = .ok (.iload_n 1, 1) := by decide +kernel
theorem own_d_prog_31_18_39 : decode prog_31_method_18_code 39 = .ok (.lshl, 1) := by decide +kernel
theorem own_d_prog_31_18_40 : decode prog_31_method_18_code 40 = .ok (.ldc2_w 57, 3) := by decide +kernel
theorem own_d_prog_31_18_43 : decode prog_31_method_18_code 43 = .ok (.lxor, 1) := by decide +kernel
theorem own_d_prog_31_18_44 : decode prog_31_method_18_code 44 = .ok (.land, 1) := by decide +kernel
theorem own_d_prog_31_18_45 : decode prog_31_method_18_code 45 = .ok (.lastore, 1) := by decide +kernel
theorem ef_rmClr (m : MethodId) (a1 : Addr) (p1 : Int32) : entryFrame m #[(.ref a1), (.int p1)] 2 = mkF m 0 #[.val (.ref a1), .val (.int p1)] [] := by first | (simp [entryFrame, mkF, argsToLocals, Value.category]; done) | rfl
def Q_rmClr (Z : State) (a1 : Addr) (p1 : Int32) (c0 : Nat) (M : Int32 → Bool) (h0 : Heap) (n0 : Nat) (v : Option Value) (h : Heap) (L : List Loc) : Prop := v = none ∧ Fr n0 L ∧ Old Z n0 h ∧ Tg Z h n0 a1 c0 (own_rm p1 M)
set_option maxRecDepth 65536 in
set_option maxHeartbeats 40000000 in
theorem rmClr (l : Launch) (Z : State) (a0 : Array Value) (hw : ∀ d ∈ tables_1, d.before a0 Z = true) (ws : List Jvm.Cond) (a1 : Addr) (p1 : Int32) (c0 : Nat) (M : Int32 → Bool) (h0 : Heap) (n0 : Nat) (Z0 : n0 ≤ h0.size) (TG1 : Tg Z h0 n0 a1 c0 M) (g1 : n0 ≤ a1) (O0 : Old Z n0 h0) (k1 : own_in p1) (hm : M p1 = true) :
    MetFree l (⟨"com/example/dramatis/dramatis/analysis/RoleGraph$Targets", "clearBit", "(I)V"⟩ : MethodName) (head1 (Jvm.Cond.code (⟨"com/example/dramatis/dramatis/analysis/RoleGraph$Targets", "clearBit", "(I)V"⟩ : MethodName) prog_31_method_18_code 2 none :: ws) ({ frames := 0, cells := 0, slots := 0, locals := 0 } : Room)) (fun a U => a = #[(.ref a1), (.int p1)] ∧ Z.Warmed39 U.vm ∧ U.heap = h0) (fun _ _ _ _ _ => True) (fun _ U o U' => ∃ v L, o = .returned v ∧ Q_rmClr Z a1 p1 c0 M h0 n0 (v) U'.heap (L) ∧ FrameEnd U o U' L 0 0) := by
  refine MetFree.of_bodySF (plainFor_of_name own_pn4) hisR ?_
  intro p e s m args below meth c s₁ Bd hml0 hP hK
  obtain ⟨rfl, hZ, hh⟩ := hP
  have hx := Bd.exec
  have hby := Bd.bytes
  have hml : c.maxLocals = 2 := hml0
  have hown : s.vm.findClass "com/example/dramatis/dramatis/analysis/RoleGraph$Targets" = some m.cls := findClass_of_methodNamed Bd.named
  have hnm := (name_of_methodNamed Bd.named Bd.method).1
  have X0 : Stand p l e ({ frames := 0, cells := 0, slots := 0, locals := 0 } : Room) s m #[(.ref a1), (.int p1)] below meth c s₁ [] 0 0 := Stand.of_body Bd
  have e0 : s₁.heap = h0 := by rw [← hh, Bd.state]; rfl
  have N0 := Fr.nil n0
  have pre0 : ∀ tgt, Steps p.tables e below (s₁.setTop (mkF m 0 #[.val (.ref a1), .val (.int p1)] [])) tgt → Steps p.tables e below (s₁.setTop (entryFrame m #[(.ref a1), (.int p1)] 2)) tgt := fun tgt k => castTop (ef_rmClr m a1 p1) k
  have TG0 := TG1
  obtain ⟨lo, ha, kc, z, hi, n, ll, E1, Fl, Fh, Fs, Av, hfr, hzb, hz0, hM, hnd, hmm, hn, hlc⟩ := TG1
  have ne1 : a1 ≠ ha := by obtain ⟨cc, A, -⟩ := Av; exact ne_arr E1 (hw _ (List.mem_of_getElem? (i := 1) rfl)) A
  have zn : ¬ z < 0 := by obtain ⟨cc, -, -, -, q, -⟩ := Av; exact q
  have hmw := (hM p1 k1).trans hm
  have pre1 : ∀ tgt, Steps p.tables e below (s₁.setTop (mkF m 3 #[.val (.ref a1), .val (.int p1)] [(.int (64 : Int32)), (.int p1)])) tgt → Steps p.tables e below (s₁.setTop (entryFrame m #[(.ref a1), (.int p1)] 2)) tgt := fun tgt kt_ => by
    refine pre0 _ ?_
    show Steps p.tables e below (s₁.setTop (mkF m 0 #[.val (.ref a1), .val (.int p1)] [])) _
    refine XS.iloadN X0.here hx rfl (hb hby own_d_prog_31_18_0) rfl ?_
    show Steps p.tables e below (s₁.setTop (mkF m 1 #[.val (.ref a1), .val (.int p1)] [(.int p1)])) _
    refine XS.bipush X0.here hx rfl (hb hby own_d_prog_31_18_1) ?_
    show Steps p.tables e below (s₁.setTop (mkF m 3 #[.val (.ref a1), .val (.int p1)] [(.int (64 : Int32)), (.int p1)])) _
    exact kt_
  rcases Decidable.em (p1 < (64 : Int32)) with hc3_2 | hc3_2
  ·
    obtain ⟨T3, X3, eh3, st3⟩ := getF X0 hx hZ hown (host := "") (Or.inl (hw _ (List.mem_of_getElem? (i := 61) rfl))) Via.refl e0 Fl (g := (mkF m 8 #[.val (.ref a1), .val (.int p1)] [(.ref a1), (.ref a1)])) rfl rfl (hb hby own_d_prog_31_18_8)
    obtain ⟨T4, h4, X4, eh4, W4, st4⟩ := putF X3 hx hZ hown (host := "") (Or.inl (hw _ (List.mem_of_getElem? (i := 61) rfl))) Via.refl eh3 Fl E1 (Or.inl (hw _ (List.mem_of_getElem? (i := 62) rfl))) (hw _ (List.mem_of_getElem? (i := 1) rfl)) (ty := .long) (by decide) rfl rfl (g := (mkF m 19 #[.val (.ref a1), .val (.int p1)] [(.long (lo &&& (((1 : Int64) <<< (p1 &&& 0x3f).toInt64) ^^^ (-1 : Int64)))), (.ref a1)])) rfl rfl (hb hby own_d_prog_31_18_19)
    have Fw4 := Fl.same W4
    have Zs5 : n0 ≤ h4.size := Nat.le_trans Z0 (Nat.le_of_eq W4.size.symm)
    have N5 := Fr.snoc X4 N0 g1
    have O5 := O0.wr W4 g1
    have c6 := (Fs.other W4 (Or.inr (slot_ne (Or.inl (hw _ (List.mem_of_getElem? (i := 30) rfl))) (Or.inl (hw _ (List.mem_of_getElem? (i := 62) rfl))) (by decide) (t := .int) (t' := .long) (by decide) (by decide))))
    obtain ⟨T7, X7, eh7, st7⟩ := getF X4 hx hZ hown (host := "") (Or.inl (hw _ (List.mem_of_getElem? (i := 29) rfl))) Via.refl eh4 c6 (g := (mkF m 48 #[.val (.ref a1), .val (.int p1)] [(.ref a1), (.ref a1)])) rfl rfl (hb hby own_d_prog_31_18_48)
    have c8 := (E1.wr W4)
    obtain ⟨T9, h9, X9, eh9, W9, st9⟩ := putF X7 hx hZ hown (host := "") (Or.inl (hw _ (List.mem_of_getElem? (i := 29) rfl))) Via.refl eh7 c6 c8 (Or.inl (hw _ (List.mem_of_getElem? (i := 30) rfl))) (hw _ (List.mem_of_getElem? (i := 1) rfl)) (ty := .int) (by decide) rfl rfl (g := (mkF m 53 #[.val (.ref a1), .val (.int p1)] [(.int (n - (1 : Int32))), (.ref a1)])) rfl rfl (hb hby own_d_prog_31_18_53)
    have Fw9 := c6.same W9
    have Zs10 : n0 ≤ h9.size := Nat.le_trans Zs5 (Nat.le_of_eq W9.size.symm)
    have N10 := Fr.snoc X9 N5 g1
    have O10 := O5.wr W9 g1
    obtain ⟨fs, hr, hrun, hended, hW, hsame⟩ := X9.leave (v := none) (fun _ => rfl)
    refine ⟨_, _, pre1 _ ?_, hrun, hended, _, _, rfl, ?_, ⟨_, rfl⟩, hW, hsame.mono (by decide) (by decide)⟩
    ·
      show Steps p.tables e below (s₁.setTop (mkF m 3 #[.val (.ref a1), .val (.int p1)] [(.int (64 : Int32)), (.int p1)])) _
      refine XS.icmpNo X0.here hx rfl (hb hby own_d_prog_31_18_3) rfl (tlt hc3_2).2.1 ?_
      show Steps p.tables e below (s₁.setTop (mkF m 6 #[.val (.ref a1), .val (.int p1)] [])) _
      refine XS.aloadN X0.here hx rfl (hb hby own_d_prog_31_18_6) rfl rfl ?_
      show Steps p.tables e below (s₁.setTop (mkF m 7 #[.val (.ref a1), .val (.int p1)] [(.ref a1)])) _
      refine XS.dup X0.here hx rfl (hb hby own_d_prog_31_18_7) rfl rfl ?_
      show Steps p.tables e below (s₁.setTop (mkF m 8 #[.val (.ref a1), .val (.int p1)] [(.ref a1), (.ref a1)])) _
      refine st3 _ ?_
      show Steps p.tables e below (T3.setTop (mkF m 11 #[.val (.ref a1), .val (.int p1)] [(.long lo), (.ref a1)])) _
      refine XS.lconst X3.here hx rfl (hb hby own_d_prog_31_18_11) ?_
      show Steps p.tables e below (T3.setTop (mkF m 12 #[.val (.ref a1), .val (.int p1)] [(.long (1 : Int64)), (.long lo), (.ref a1)])) _
      refine XS.iloadN X3.here hx rfl (hb hby own_d_prog_31_18_12) rfl ?_
      show Steps p.tables e below (T3.setTop (mkF m 13 #[.val (.ref a1), .val (.int p1)] [(.int p1), (.long (1 : Int64)), (.long lo), (.ref a1)])) _
      refine XS.lshl X3.here hx rfl (hb hby own_d_prog_31_18_13) rfl ?_
      show Steps p.tables e below (T3.setTop (mkF m 14 #[.val (.ref a1), .val (.int p1)] [(.long ((1 : Int64) <<< (p1 &&& 0x3f).toInt64)), (.long lo), (.ref a1)])) _
      refine X3.ldc2Long hx hown (mvT hZ (hw _ (List.mem_of_getElem? (i := 101) rfl))) (g := (mkF m 14 #[.val (.ref a1), .val (.int p1)] [(.long ((1 : Int64) <<< (p1 &&& 0x3f).toInt64)), (.long lo), (.ref a1)])) rfl (hb hby own_d_prog_31_18_14) _ ?_
      show Steps p.tables e below (T3.setTop (mkF m 17 #[.val (.ref a1), .val (.int p1)] [(.long (-1 : Int64)), (.long ((1 : Int64) <<< (p1 &&& 0x3f).toInt64)), (.long lo), (.ref a1)])) _
      refine XS.lxor X3.here hx rfl (hb hby own_d_prog_31_18_17) rfl ?_
      show Steps p.tables e below (T3.setTop (mkF m 18 #[.val (.ref a1), .val (.int p1)] [(.long (((1 : Int64) <<< (p1 &&& 0x3f).toInt64) ^^^ (-1 : Int64))), (.long lo), (.ref a1)])) _
      refine XS.land X3.here hx rfl (hb hby own_d_prog_31_18_18) rfl ?_
      show Steps p.tables e below (T3.setTop (mkF m 19 #[.val (.ref a1), .val (.int p1)] [(.long (lo &&& (((1 : Int64) <<< (p1 &&& 0x3f).toInt64) ^^^ (-1 : Int64)))), (.ref a1)])) _
      refine st4 _ ?_
      show Steps p.tables e below (T4.setTop (mkF m 22 #[.val (.ref a1), .val (.int p1)] [])) _
      refine XS.goto X4.here hx rfl (pc0 := 22) (pc' := 46) rfl (hb hby own_d_prog_31_18_22) (by decide) (by decide) ?_
      show Steps p.tables e below (T4.setTop (mkF m 46 #[.val (.ref a1), .val (.int p1)] [])) _
      refine XS.aloadN X4.here hx rfl (hb hby own_d_prog_31_18_46) rfl rfl ?_
      show Steps p.tables e below (T4.setTop (mkF m 47 #[.val (.ref a1), .val (.int p1)] [(.ref a1)])) _
      refine XS.dup X4.here hx rfl (hb hby own_d_prog_31_18_47) rfl rfl ?_
      show Steps p.tables e below (T4.setTop (mkF m 48 #[.val (.ref a1), .val (.int p1)] [(.ref a1), (.ref a1)])) _
      refine st7 _ ?_
      show Steps p.tables e below (T7.setTop (mkF m 51 #[.val (.ref a1), .val (.int p1)] [(.int n), (.ref a1)])) _
      refine XS.iconst X7.here hx rfl (hb hby own_d_prog_31_18_51) ?_
      show Steps p.tables e below (T7.setTop (mkF m 52 #[.val (.ref a1), .val (.int p1)] [(.int (1 : Int32)), (.int n), (.ref a1)])) _
      refine XS.isub X7.here hx rfl (hb hby own_d_prog_31_18_52) rfl ?_
      show Steps p.tables e below (T7.setTop (mkF m 53 #[.val (.ref a1), .val (.int p1)] [(.int (n - (1 : Int32))), (.ref a1)])) _
      refine st9 _ ?_
      show Steps p.tables e below (T9.setTop (mkF m 56 #[.val (.ref a1), .val (.int p1)] [])) _
      exact X9.returnOut hx Bd.returns (hb hby own_d_prog_31_18_56) hr
    ·
      show Q_rmClr Z a1 p1 c0 M h0 n0 (_) T9.heap (_)
      rw [eh9]
      have c11 := ((Fh.other W4 (Or.inr (slot_ne (Or.inl (hw _ (List.mem_of_getElem? (i := 23) rfl))) (Or.inl (hw _ (List.mem_of_getElem? (i := 62) rfl))) (by decide) (t := (.array .long)) (t' := .long) (by decide) (by decide)))).other W9 (Or.inr (slot_ne (Or.inl (hw _ (List.mem_of_getElem? (i := 23) rfl))) (Or.inl (hw _ (List.mem_of_getElem? (i := 30) rfl))) (by decide) (t := (.array .long)) (t' := .int) (by decide) (by decide))))
      have c12 := ((Av.other W4 (Ne.symm ne1)).other W9 (Ne.symm ne1))
      have c13 := (Fw4.other W9 (Or.inr (slot_ne (Or.inl (hw _ (List.mem_of_getElem? (i := 62) rfl))) (Or.inl (hw _ (List.mem_of_getElem? (i := 30) rfl))) (by decide) (t := .long) (t' := .int) (by decide) (by decide))))
      have Cd := own_card_rem hnd hmm hm k1 hn hlc
      have c14 := (c8.wr W9)
      exact ⟨rfl, N10, O10, (lo &&& (((1 : Int64) <<< (p1 &&& 0x3f).toInt64) ^^^ (-1 : Int64))), ha, _, z, hi, (n - (1 : Int32)), (ll.erase p1), c14, c13, c11, Fw9, c12, hfr, hzb, hz0, (fun j hj => (own_clr_lo hc3_2 k1.1 hj.1).trans (by rw [hM j hj]; rfl)), Cd.1, Cd.2.1, Cd.2.2.1, Cd.2.2.2⟩
  ·
    obtain ⟨T15, X15, eh15, st15⟩ := getF X0 hx hZ hown (host := "") (Or.inl (hw _ (List.mem_of_getElem? (i := 22) rfl))) Via.refl e0 Fh (g := (mkF m 26 #[.val (.ref a1), .val (.int p1)] [(.ref a1)])) rfl rfl (hb hby own_d_prog_31_18_26)
    obtain ⟨cl16, Ar16, q16, Sz16, Ng16, Hs16, Gf16⟩ := id Av
    have hin16 := inb_of Sz16 (j := ((p1 / (64 : Int32)) - (1 : Int32))) ⟨own_wd_nn hc3_2 k1.2, (own_lt_of_mem hc3_2 k1.2 zn hz0 hmw)⟩
    obtain ⟨cl17, Ar17, q17, Sz17, Ng17, Hs17, Gf17⟩ := id Av
    have nn17 : ¬ ((p1 / (64 : Int32)) - (1 : Int32)) < 0 := own_wd_nn hc3_2 k1.2
    have lt17 : ((p1 / (64 : Int32)) - (1 : Int32)) < z := (own_lt_of_mem hc3_2 k1.2 zn hz0 hmw)
    have hin17 := inb_of Sz17 (j := ((p1 / (64 : Int32)) - (1 : Int32))) ⟨nn17, lt17⟩
    have gha17 : n0 ≤ ha := own_gha hfr nn17 lt17
    obtain ⟨T17, h17, X17, eh17, W17, st17⟩ := stJ X15 hx hZ eh15 Ar17 (j := ((p1 / (64 : Int32)) - (1 : Int32))) hin17 (g := (mkF m 45 #[.val (.ref a1), .val (.int p1)] [(.long ((hi ((p1 / (64 : Int32)) - (1 : Int32)).toNatClampNeg) &&& (((1 : Int64) <<< (p1 &&& 0x3f).toInt64) ^^^ (-1 : Int64)))), (.int ((p1 / (64 : Int32)) - (1 : Int32))), (.ref ha)])) rfl rfl (hb hby own_d_prog_31_18_45)
    have Zs18 : n0 ≤ h17.size := Nat.le_trans Z0 (Nat.le_of_eq W17.size.symm)
    have N18 := Fr.snoc X17 N0 gha17
    have O18 := O0.wr W17 gha17
    have V17 : Arv Z h17 ha kc .long z (own_ws (own_upd hi ((p1 / (64 : Int32)) - (1 : Int32)).toNatClampNeg ((hi ((p1 / (64 : Int32)) - (1 : Int32)).toNatClampNeg) &&& (((1 : Int64) <<< (p1 &&& 0x3f).toInt64) ^^^ (-1 : Int64)))) z) (.long (0 : Int64)) := (Arv.set Ar17 q17 Sz17 Ng17 Hs17 Gf17 rfl W17 ((p1 / (64 : Int32)) - (1 : Int32)).toNatClampNeg rfl (by rw [own_ws_len]; exact own_ltN nn17 lt17)).pad (own_ws_set hz0 (own_ltN nn17 lt17) _)
    have c19 := (Fs.other W17 (Or.inl ne1))
    obtain ⟨T20, X20, eh20, st20⟩ := getF X17 hx hZ hown (host := "") (Or.inl (hw _ (List.mem_of_getElem? (i := 29) rfl))) Via.refl eh17 c19 (g := (mkF m 48 #[.val (.ref a1), .val (.int p1)] [(.ref a1), (.ref a1)])) rfl rfl (hb hby own_d_prog_31_18_48)
    have c21 := (E1.wr W17)
    obtain ⟨T22, h22, X22, eh22, W22, st22⟩ := putF X20 hx hZ hown (host := "") (Or.inl (hw _ (List.mem_of_getElem? (i := 29) rfl))) Via.refl eh20 c19 c21 (Or.inl (hw _ (List.mem_of_getElem? (i := 30) rfl))) (hw _ (List.mem_of_getElem? (i := 1) rfl)) (ty := .int) (by decide) rfl rfl (g := (mkF m 53 #[.val (.ref a1), .val (.int p1)] [(.int (n - (1 : Int32))), (.ref a1)])) rfl rfl (hb hby own_d_prog_31_18_53)
    have Fw22 := c19.same W22
    have Zs23 : n0 ≤ h22.size := Nat.le_trans Zs18 (Nat.le_of_eq W22.size.symm)
    have N23 := Fr.snoc X22 N18 g1
    have O23 := O18.wr W22 g1
    obtain ⟨fs, hr, hrun, hended, hW, hsame⟩ := X22.leave (v := none) (fun _ => rfl)
    refine ⟨_, _, pre1 _ ?_, hrun, hended, _, _, rfl, ?_, ⟨_, rfl⟩, hW, hsame.mono (by decide) (by decide)⟩
    ·
      show Steps p.tables e below (s₁.setTop (mkF m 3 #[.val (.ref a1), .val (.int p1)] [(.int (64 : Int32)), (.int p1)])) _
      refine XS.icmpYes X0.here hx rfl (pc0 := 3) (pc' := 25) rfl (hb hby own_d_prog_31_18_3) rfl (flt hc3_2).2.1 (by decide) (by decide) ?_
      show Steps p.tables e below (s₁.setTop (mkF m 25 #[.val (.ref a1), .val (.int p1)] [])) _
      refine XS.aloadN X0.here hx rfl (hb hby own_d_prog_31_18_25) rfl rfl ?_
      show Steps p.tables e below (s₁.setTop (mkF m 26 #[.val (.ref a1), .val (.int p1)] [(.ref a1)])) _
      refine st15 _ ?_
      show Steps p.tables e below (T15.setTop (mkF m 29 #[.val (.ref a1), .val (.int p1)] [(.ref ha)])) _
      refine XS.iloadN X15.here hx rfl (hb hby own_d_prog_31_18_29) rfl ?_
      show Steps p.tables e below (T15.setTop (mkF m 30 #[.val (.ref a1), .val (.int p1)] [(.int p1), (.ref ha)])) _
      refine XS.bipush X15.here hx rfl (hb hby own_d_prog_31_18_30) ?_
      show Steps p.tables e below (T15.setTop (mkF m 32 #[.val (.ref a1), .val (.int p1)] [(.int (64 : Int32)), (.int p1), (.ref ha)])) _
      refine XS.idiv X15.here hx rfl (hb hby own_d_prog_31_18_32) rfl (by decide) ?_
      show Steps p.tables e below (T15.setTop (mkF m 33 #[.val (.ref a1), .val (.int p1)] [(.int (p1 / (64 : Int32))), (.ref ha)])) _
      refine XS.iconst X15.here hx rfl (hb hby own_d_prog_31_18_33) ?_
      show Steps p.tables e below (T15.setTop (mkF m 34 #[.val (.ref a1), .val (.int p1)] [(.int (1 : Int32)), (.int (p1 / (64 : Int32))), (.ref ha)])) _
      refine XS.isub X15.here hx rfl (hb hby own_d_prog_31_18_34) rfl ?_
      show Steps p.tables e below (T15.setTop (mkF m 35 #[.val (.ref a1), .val (.int p1)] [(.int ((p1 / (64 : Int32)) - (1 : Int32))), (.ref ha)])) _
      refine Jvm.Free.XT.dup2 X15.here hx rfl (hb hby own_d_prog_31_18_35) rfl rfl rfl ?_
      show Steps p.tables e below (T15.setTop (mkF m 36 #[.val (.ref a1), .val (.int p1)] [(.int ((p1 / (64 : Int32)) - (1 : Int32))), (.ref ha), (.int ((p1 / (64 : Int32)) - (1 : Int32))), (.ref ha)])) _
      refine X15.laload hx (j := ((p1 / (64 : Int32)) - (1 : Int32))) (v := (.long (hi ((p1 / (64 : Int32)) - (1 : Int32)).toNatClampNeg))) (by rw [eh15]; exact Ar16.1) (State.isArrayOf_alike hZ.alike Ar16.2.1) Ar16.2.2 hin16 (Hs16.at hin16 (own_ws_get hz0 _)) (g := (mkF m 36 #[.val (.ref a1), .val (.int p1)] [(.int ((p1 / (64 : Int32)) - (1 : Int32))), (.ref ha), (.int ((p1 / (64 : Int32)) - (1 : Int32))), (.ref ha)])) rfl rfl (hb hby own_d_prog_31_18_36) _ ?_
      show Steps p.tables e below (T15.setTop (mkF m 37 #[.val (.ref a1), .val (.int p1)] [(.long (hi ((p1 / (64 : Int32)) - (1 : Int32)).toNatClampNeg)), (.int ((p1 / (64 : Int32)) - (1 : Int32))), (.ref ha)])) _
      refine XS.lconst X15.here hx rfl (hb hby own_d_prog_31_18_37) ?_
      show Steps p.tables e below (T15.setTop (mkF m 38 #[.val (.ref a1), .val (.int p1)] [(.long (1 : Int64)), (.long (hi ((p1 / (64 : Int32)) - (1 : Int32)).toNatClampNeg)), (.int ((p1 / (64 : Int32)) - (1 : Int32))), (.ref ha)])) _
      refine XS.iloadN X15.here hx rfl (hb hby own_d_prog_31_18_38) rfl ?_
      show Steps p.tables e below (T15.setTop (mkF m 39 #[.val (.ref a1), .val (.int p1)] [(.int p1), (.long (1 : Int64)), (.long (hi ((p1 / (64 : Int32)) - (1 : Int32)).toNatClampNeg)), (.int ((p1 / (64 : Int32)) - (1 : Int32))), (.ref ha)])) _
      refine XS.lshl X15.here hx rfl (hb hby own_d_prog_31_18_39) rfl ?_
      show Steps p.tables e below (T15.setTop (mkF m 40 #[.val (.ref a1), .val (.int p1)] [(.long ((1 : Int64) <<< (p1 &&& 0x3f).toInt64)), (.long (hi ((p1 / (64 : Int32)) - (1 : Int32)).toNatClampNeg)), (.int ((p1 / (64 : Int32)) - (1 : Int32))), (.ref ha)])) _
      refine X15.ldc2Long hx hown (mvT hZ (hw _ (List.mem_of_getElem? (i := 101) rfl))) (g := (mkF m 40 #[.val (.ref a1), .val (.int p1)] [(.long ((1 : Int64) <<< (p1 &&& 0x3f).toInt64)), (.long (hi ((p1 / (64 : Int32)) - (1 : Int32)).toNatClampNeg)), (.int ((p1 / (64 : Int32)) - (1 : Int32))), (.ref ha)])) rfl (hb hby own_d_prog_31_18_40) _ ?_
      show Steps p.tables e below (T15.setTop (mkF m 43 #[.val (.ref a1), .val (.int p1)] [(.long (-1 : Int64)), (.long ((1 : Int64) <<< (p1 &&& 0x3f).toInt64)), (.long (hi ((p1 / (64 : Int32)) - (1 : Int32)).toNatClampNeg)), (.int ((p1 / (64 : Int32)) - (1 : Int32))), (.ref ha)])) _
      refine XS.lxor X15.here hx rfl (hb hby own_d_prog_31_18_43) rfl ?_
      show Steps p.tables e below (T15.setTop (mkF m 44 #[.val (.ref a1), .val (.int p1)] [(.long (((1 : Int64) <<< (p1 &&& 0x3f).toInt64) ^^^ (-1 : Int64))), (.long (hi ((p1 / (64 : Int32)) - (1 : Int32)).toNatClampNeg)), (.int ((p1 / (64 : Int32)) - (1 : Int32))), (.ref ha)])) _
      refine XS.land X15.here hx rfl (hb hby own_d_prog_31_18_44) rfl ?_
      show Steps p.tables e below (T15.setTop (mkF m 45 #[.val (.ref a1), .val (.int p1)] [(.long ((hi ((p1 / (64 : Int32)) - (1 : Int32)).toNatClampNeg) &&& (((1 : Int64) <<< (p1 &&& 0x3f).toInt64) ^^^ (-1 : Int64)))), (.int ((p1 / (64 : Int32)) - (1 : Int32))), (.ref ha)])) _
      refine st17 _ ?_
      show Steps p.tables e below (T17.setTop (mkF m 46 #[.val (.ref a1), .val (.int p1)] [])) _
      refine XS.aloadN X17.here hx rfl (hb hby own_d_prog_31_18_46) rfl rfl ?_
      show Steps p.tables e below (T17.setTop (mkF m 47 #[.val (.ref a1), .val (.int p1)] [(.ref a1)])) _
      refine XS.dup X17.here hx rfl (hb hby own_d_prog_31_18_47) rfl rfl ?_
      show Steps p.tables e below (T17.setTop (mkF m 48 #[.val (.ref a1), .val (.int p1)] [(.ref a1), (.ref a1)])) _
      refine st20 _ ?_
      show Steps p.tables e below (T20.setTop (mkF m 51 #[.val (.ref a1), .val (.int p1)] [(.int n), (.ref a1)])) _
      refine XS.iconst X20.here hx rfl (hb hby own_d_prog_31_18_51) ?_
      show Steps p.tables e below (T20.setTop (mkF m 52 #[.val (.ref a1), .val (.int p1)] [(.int (1 : Int32)), (.int n), (.ref a1)])) _
      refine XS.isub X20.here hx rfl (hb hby own_d_prog_31_18_52) rfl ?_
      show Steps p.tables e below (T20.setTop (mkF m 53 #[.val (.ref a1), .val (.int p1)] [(.int (n - (1 : Int32))), (.ref a1)])) _
      refine st22 _ ?_
      show Steps p.tables e below (T22.setTop (mkF m 56 #[.val (.ref a1), .val (.int p1)] [])) _
      exact X22.returnOut hx Bd.returns (hb hby own_d_prog_31_18_56) hr
    ·
      show Q_rmClr Z a1 p1 c0 M h0 n0 (_) T22.heap (_)
      rw [eh22]
      have c24 := ((Fh.other W17 (Or.inl ne1)).other W22 (Or.inr (slot_ne (Or.inl (hw _ (List.mem_of_getElem? (i := 23) rfl))) (Or.inl (hw _ (List.mem_of_getElem? (i := 30) rfl))) (by decide) (t := (.array .long)) (t' := .int) (by decide) (by decide))))
      have c25 := (V17.other W22 (Ne.symm ne1))
      have c26 := ((Fl.other W17 (Or.inl ne1)).other W22 (Or.inr (slot_ne (Or.inl (hw _ (List.mem_of_getElem? (i := 62) rfl))) (Or.inl (hw _ (List.mem_of_getElem? (i := 30) rfl))) (by decide) (t := .long) (t' := .int) (by decide) (by decide))))
      have Cd := own_card_rem hnd hmm hm k1 hn hlc
      have c27 := (c21.wr W22)
      exact ⟨rfl, N23, O23, lo, ha, _, z, (own_upd hi ((p1 / (64 : Int32)) - (1 : Int32)).toNatClampNeg ((hi ((p1 / (64 : Int32)) - (1 : Int32)).toNatClampNeg) &&& (((1 : Int64) <<< (p1 &&& 0x3f).toInt64) ^^^ (-1 : Int64)))), (n - (1 : Int32)), (ll.erase p1), c27, c26, c24, Fw22, c25, hfr, hzb, (own_upd_z hz0 (own_ltN nn17 lt17)), (fun j hj => (own_clr_hi hc3_2 k1.2 hj.1 hj.2).trans (by rw [hM j hj]; rfl)), Cd.1, Cd.2.1, Cd.2.2.1, Cd.2.2.2⟩
theorem own_osz {Z : State} {n0 : Nat} {h : Heap} (O : Old Z n0 h) : n0 ≤ h.size := O.1 ▸ O.2.1
theorem own_d_prog_31_7_0 : decode prog_31_method_7_code 0 = .ok (.aload_n 0, 1) := by decide +kernel
theorem own_d_prog_31_7_1 : decode prog_31_method_7_code 1 = .ok (.aload_n 1, 1) := by decide +kernel
theorem own_d_prog_31_7_2 : decode prog_31_method_7_code 2 = .ok (.invokevirtual 41, 3) := by decide +kernel
theorem own_pd5 : parseMethodDescriptor "()I" = some ⟨[], some .int⟩ := by decide +kernel
theorem own_d_prog_31_7_5 : decode prog_31_method_7_code 5 = .ok (.iconst 1, 1) := by decide +kernel
theorem own_d_prog_31_7_6 : decode prog_31_method_7_code 6 = .ok (.iadd, 1) := by decide +kernel
theorem own_d_prog_31_7_7 : decode prog_31_method_7_code 7 = .ok (.invokevirtual 49, 3) := by decide +kernel
theorem own_d_prog_31_7_10 : decode prog_31_method_7_code 10 = .ok (.ireturn, 1) := by decide +kernel
theorem ef_rmAdd (m : MethodId) (a1 : Addr) (a2 : Addr) : entryFrame m #[(.ref a1), (.ref a2)] 2 = mkF m 0 #[.val (.ref a1), .val (.ref a2)] [] := by first | (simp [entryFrame, mkF, argsToLocals, Value.category]; done) | rfl
def Q_rmAdd (Z : State) (a1 : Addr) (a2 : Addr) (t1 : Int32) (c0 : Nat) (M : Int32 → Bool) (h0 : Heap) (n0 : Nat) (v : Option Value) (h : Heap) (L : List Loc) : Prop := ∃ r, v = some (.int r) ∧ Fr n0 L ∧ Old Z n0 h ∧ Tg Z h n0 a1 (c0 + 1) (own_ad true (t1 + (1 : Int32)) M)
set_option maxRecDepth 65536 in
set_option maxHeartbeats 40000000 in
theorem rmAdd (l : Launch) (Z : State) (a0 : Array Value) (hw : ∀ d ∈ tables_1, d.before a0 Z = true) (ws : List Jvm.Cond) (a1 : Addr) (a2 : Addr) (t1 : Int32) (c0 : Nat) (M : Int32 → Bool) (h0 : Heap) (n0 : Nat) (Z0 : n0 ≤ h0.size) (TG1 : Tg Z h0 n0 a1 c0 M) (g1 : n0 ≤ a1) (O0 : Old Z n0 h0) (EB : Exa Z h0 a2 "java/lang/Integer") (FB : Fld Z h0 a2 "java/lang/Integer" "value" "I" (.int t1)) (k1 : own_in (t1 + (1 : Int32))) (hc0 : c0 ≤ 3) (E1 : Exa Z h0 a1 "com/example/dramatis/dramatis/analysis/RoleGraph$Targets") :
    MetFree l (⟨"com/example/dramatis/dramatis/analysis/RoleGraph$Targets", "add", "(Ljava/lang/Integer;)Z"⟩ : MethodName) (head1 (Jvm.Cond.code (⟨"com/example/dramatis/dramatis/analysis/RoleGraph$Targets", "add", "(Ljava/lang/Integer;)Z"⟩ : MethodName) prog_31_method_7_code 2 (some .boolean) :: ws) ({ frames := 3, cells := 1, slots := 15, locals := 70 } : Room)) (fun a U => a = #[(.ref a1), (.ref a2)] ∧ Z.Warmed39 U.vm ∧ U.heap = h0) (fun _ _ _ _ _ => True) (fun _ U o U' => ∃ v L, o = .returned v ∧ Q_rmAdd Z a1 a2 t1 c0 M h0 n0 (v) U'.heap (L) ∧ FrameEnd U o U' L 1 15) := by
  refine MetFree.of_bodySF (plainFor_of_name own_pn4) hisR ?_
  intro p e s m args below meth c s₁ Bd hml0 hP hK
  obtain ⟨rfl, hZ, hh⟩ := hP
  have hx := Bd.exec
  have hby := Bd.bytes
  have hml : c.maxLocals = 2 := hml0
  have hown : s.vm.findClass "com/example/dramatis/dramatis/analysis/RoleGraph$Targets" = some m.cls := findClass_of_methodNamed Bd.named
  have hnm := (name_of_methodNamed Bd.named Bd.method).1
  have X0 : Stand p l e ({ frames := 3, cells := 1, slots := 15, locals := 70 } : Room) s m #[(.ref a1), (.ref a2)] below meth c s₁ [] 0 0 := Stand.of_body Bd
  have e0 : s₁.heap = h0 := by rw [← hh, Bd.state]; rfl
  have N0 := Fr.nil n0
  have pre0 : ∀ tgt, Steps p.tables e below (s₁.setTop (mkF m 0 #[.val (.ref a1), .val (.ref a2)] [])) tgt → Steps p.tables e below (s₁.setTop (entryFrame m #[(.ref a1), (.ref a2)] 2)) tgt := fun tgt k => castTop (ef_rmAdd m a1 a2) k
  obtain ⟨cq1, kq1, q1a, q1b, q1c⟩ := isOf hZ e0 EB
  obtain ⟨_, _, ⟨T1, L1, k1, n1⟩, -, X1, ⟨Lc1, hQ1, l1, y1, z1⟩, st1⟩ := X0.virtualBack hx (y := (⟨"java/lang/Integer", "intValue", "()I"⟩ : MethodName)) (z := (⟨"java/lang/Integer", "intValue", "()I"⟩ : MethodName)) hown (mvT hZ (hw _ (List.mem_of_getElem? (i := 50) rfl))) (mvT hZ (hw _ (List.mem_of_getElem? (i := 51) rfl))) (notFace_of_selects (args := #[]) (mvT hZ (hw _ (List.mem_of_getElem? (i := 53) rfl)))) (mvT hZ (hw _ (List.mem_of_getElem? (i := 53) rfl))) (mvT hZ (hw _ (List.mem_of_getElem? (i := 52) rfl))) (by decide) (backOf (W := 1) (rmIV l Z a0 hw [] a2 t1 h0 n0 Z0 FB) hZ (hw _ (List.mem_of_getElem? (i := 54) rfl)) (hw _ (List.mem_of_getElem? (i := 33) rfl)) (by decide) (by decide)) q1a q1c (g := (mkF m 2 #[.val (.ref a1), .val (.ref a2)] [(.ref a2), (.ref a1)])) rfl (by rw [hml]; rfl) (Steps.refl _) (argsL := []) (rest := [(.ref a1)]) (lenOf own_pd5 rfl) rfl (by show 2 * 0 + _ ≤ _; exact Nat.le_of_eq rfl) (hb hby own_d_prog_31_7_2) (fun _ _ => ⟨rfl, e0, (by decide : 0 + 0 ≤ _), (by decide : 0 + 0 ≤ _)⟩)
  dsimp only [Pt.U, Pt.locs, Pt.cells, Pt.slots] at X1 l1 y1 z1 st1 hQ1
  subst l1 y1 z1
  obtain ⟨rfl, N1q, eq1⟩ := hQ1
  have N1 := Fr.app N0 N1q
  obtain ⟨cq2, q2, q2'⟩ := E1.cell
  obtain ⟨_, _, ⟨T2, L2, k2, n2⟩, -, X2, ⟨Lc2, hQ2, l2, y2, z2⟩, st2⟩ := X1.privateBack hx (y := (⟨"com/example/dramatis/dramatis/analysis/RoleGraph$Targets", "setBit", "(I)Z"⟩ : MethodName)) hown (mvT hZ (hw _ (List.mem_of_getElem? (i := 80) rfl))) (mvT hZ (hw _ (List.mem_of_getElem? (i := 81) rfl))) (own_selPriv (mvT hZ (hw _ (List.mem_of_getElem? (i := 1) rfl))) (Cond.privateMethod_at (mvP hZ (hw _ (List.mem_of_getElem? (i := 82) rfl)) (args := #[]))) (mvT hZ (hw _ (List.mem_of_getElem? (i := 81) rfl))) (by decide)) (Cond.privateMethod_at (mvP hZ (hw _ (List.mem_of_getElem? (i := 82) rfl)) (args := #[]))) (mvT hZ (hw _ (List.mem_of_getElem? (i := 83) rfl))) (by decide) (backOf (W := 0) (rmSet l Z a0 hw [] a1 (t1 + (1 : Int32)) c0 M h0 n0 Z0 TG1 g1 O0 k1 hc0) hZ (hw _ (List.mem_of_getElem? (i := 83) rfl)) (hw _ (List.mem_of_getElem? (i := 2) rfl)) (by decide) (by decide)) (g := (mkF m 7 #[.val (.ref a1), .val (.ref a2)] [(.int (t1 + (1 : Int32))), (.ref a1)])) rfl (by rw [hml]; rfl) (Steps.refl _) (a := a1) (by rw [eq1]; exact q2) q2' (argsL := [(.int (t1 + (1 : Int32)))]) (rest := []) (lenOf own_pd3 rfl) rfl (by show 2 * 0 + _ ≤ _; exact Nat.le_of_eq rfl) (hb hby own_d_prog_31_7_7) (fun _ _ => ⟨rfl, eq1, (by decide : 0 + 1 ≤ _), (by decide : 0 + 15 ≤ _)⟩)
  dsimp only [Pt.U, Pt.locs, Pt.cells, Pt.slots] at X2 l2 y2 z2 st2 hQ2
  subst l2 y2 z2
  obtain ⟨r2, rfl, hb2, N2q, O2, Tg2⟩ := hQ2
  have N2 := Fr.app N1 N2q
  have Zs2 : n0 ≤ T2.heap.size := own_osz O2
  obtain ⟨fs, hr, hrun, hended, hW, hsame⟩ := X2.leave (v := some (.int r2)) (fun h => by rw [Bd.returns] at h; cases h)
  refine ⟨_, _, pre0 _ ?_, hrun, hended, _, _, rfl, ?_, ⟨_, rfl⟩, hW, hsame.mono (by decide) (by decide)⟩
  ·
    show Steps p.tables e below (s₁.setTop (mkF m 0 #[.val (.ref a1), .val (.ref a2)] [])) _
    refine XS.aloadN X0.here hx rfl (hb hby own_d_prog_31_7_0) rfl rfl ?_
    show Steps p.tables e below (s₁.setTop (mkF m 1 #[.val (.ref a1), .val (.ref a2)] [(.ref a1)])) _
    refine XS.aloadN X0.here hx rfl (hb hby own_d_prog_31_7_1) rfl rfl ?_
    show Steps p.tables e below (s₁.setTop (mkF m 2 #[.val (.ref a1), .val (.ref a2)] [(.ref a2), (.ref a1)])) _
    refine st1.trans ?_
    show Steps p.tables e below (T1.setTop (mkF m 5 #[.val (.ref a1), .val (.ref a2)] [(.int t1), (.ref a1)])) _
    refine XS.iconst X1.here hx rfl (hb hby own_d_prog_31_7_5) ?_
    show Steps p.tables e below (T1.setTop (mkF m 6 #[.val (.ref a1), .val (.ref a2)] [(.int (1 : Int32)), (.int t1), (.ref a1)])) _
    refine XS.iadd X1.here hx rfl (hb hby own_d_prog_31_7_6) rfl ?_
    show Steps p.tables e below (T1.setTop (mkF m 7 #[.val (.ref a1), .val (.ref a2)] [(.int (t1 + (1 : Int32))), (.ref a1)])) _
    refine st2.trans ?_
    show Steps p.tables e below (T2.setTop (mkF m 10 #[.val (.ref a1), .val (.ref a2)] [(.int r2)])) _
    exact retN X2 hx (t := .boolean) Bd.returns (by simp) (hb hby own_d_prog_31_7_10) (by rw [own_nar hb2]; exact hr)
  ·
    show Q_rmAdd Z a1 a2 t1 c0 M h0 n0 (_) T2.heap (_)
    exact ⟨_, rfl, N2, O2, Tg2⟩
theorem own_r1 {r : Int32} {b : Bool} (hr : r = if b = true then 1 else 0) (h : ¬ r = (0 : Int32)) : some (Value.int (1 : Int32)) = some (.int r) := by
  cases b
  · exact absurd hr h
  · rw [hr]; rfl
theorem own_d_prog_31_6_0 : decode prog_31_method_6_code 0 = .ok (.aload_n 1, 1) := by decide +kernel
theorem own_d_prog_31_6_1 : decode prog_31_method_6_code 1 = .ok (.instanceof 39, 3) := by decide +kernel
theorem own_d_prog_31_6_4 : decode prog_31_method_6_code 4 = .ok (.ifCond .eq 33, 3) := by decide +kernel
theorem own_d_prog_31_6_7 : decode prog_31_method_6_code 7 = .ok (.aload_n 1, 1) := by decide +kernel
theorem own_d_prog_31_6_8 : decode prog_31_method_6_code 8 = .ok (.checkcast 39, 3) := by decide +kernel
theorem own_d_prog_31_6_11 : decode prog_31_method_6_code 11 = .ok (.astore_n 2, 1) := by decide +kernel
theorem own_d_prog_31_6_12 : decode prog_31_method_6_code 12 = .ok (.aload_n 2, 1) := by decide +kernel
theorem own_d_prog_31_6_13 : decode prog_31_method_6_code 13 = .ok (.invokevirtual 41, 3) := by decide +kernel
theorem own_d_prog_31_6_16 : decode prog_31_method_6_code 16 = .ok (.iconst (-1), 1) := by decide +kernel
theorem own_d_prog_31_6_17 : decode prog_31_method_6_code 17 = .ok (.if_icmp .lt 20, 3) := by decide +kernel
theorem own_d_prog_31_6_20 : decode prog_31_method_6_code 20 = .ok (.aload_n 0, 1) := by decide +kernel
theorem own_d_prog_31_6_21 : decode prog_31_method_6_code 21 = .ok (.aload_n 2, 1) := by decide +kernel
theorem own_d_prog_31_6_22 : decode prog_31_method_6_code 22 = .ok (.invokevirtual 41, 3) := by decide +kernel
theorem own_d_prog_31_6_25 : decode prog_31_method_6_code 25 = .ok (.iconst 1, 1) := by decide +kernel
theorem own_d_prog_31_6_26 : decode prog_31_method_6_code 26 = .ok (.iadd, 1) := by decide +kernel
theorem own_d_prog_31_6_27 : decode prog_31_method_6_code 27 = .ok (.invokevirtual 45, 3) := by decide +kernel
theorem own_d_prog_31_6_30 : decode prog_31_method_6_code 30 = .ok (.ifCond .eq 7, 3) := by decide +kernel
theorem own_d_prog_31_6_37 : decode prog_31_method_6_code 37 = .ok (.iconst 0, 1) := by decide +kernel
theorem own_d_prog_31_6_38 : decode prog_31_method_6_code 38 = .ok (.ireturn, 1) := by decide +kernel
theorem own_d_prog_31_6_33 : decode prog_31_method_6_code 33 = .ok (.iconst 1, 1) := by decide +kernel
theorem own_d_prog_31_6_34 : decode prog_31_method_6_code 34 = .ok (.goto 4, 3) := by decide +kernel
theorem ef_rmCon (m : MethodId) (a1 : Addr) (a2 : Addr) : entryFrame m #[(.ref a1), (.ref a2)] 3 = mkF m 0 #[.val (.ref a1), .val (.ref a2), .unset] [] := by first | (simp [entryFrame, mkF, argsToLocals, Value.category]; done) | rfl
def Q_rmCon (Z : State) (a1 : Addr) (a2 : Addr) (t1 : Int32) (c0 : Nat) (M : Int32 → Bool) (r : Int32) (h0 : Heap) (n0 : Nat) (v : Option Value) (h : Heap) (L : List Loc) : Prop := v = some (.int r) ∧ Fr n0 L ∧ h = h0
set_option maxRecDepth 65536 in
set_option maxHeartbeats 40000000 in
theorem rmCon (l : Launch) (Z : State) (a0 : Array Value) (hw : ∀ d ∈ tables_1, d.before a0 Z = true) (ws : List Jvm.Cond) (a1 : Addr) (a2 : Addr) (t1 : Int32) (c0 : Nat) (M : Int32 → Bool) (r : Int32) (h0 : Heap) (n0 : Nat) (Z0 : n0 ≤ h0.size) (TG1 : Tg Z h0 n0 a1 c0 M) (EB : Exa Z h0 a2 "java/lang/Integer") (FB : Fld Z h0 a2 "java/lang/Integer" "value" "I" (.int t1)) (k1 : own_in (t1 + (1 : Int32))) (ktm : ¬ t1 < (-1 : Int32)) (hr1 : r = if M (t1 + (1 : Int32)) = true then 1 else 0) :
    MetFree l (⟨"com/example/dramatis/dramatis/analysis/RoleGraph$Targets", "contains", "(Ljava/lang/Object;)Z"⟩ : MethodName) (head1 (Jvm.Cond.code (⟨"com/example/dramatis/dramatis/analysis/RoleGraph$Targets", "contains", "(Ljava/lang/Object;)Z"⟩ : MethodName) prog_31_method_6_code 3 (some .boolean) :: ws) ({ frames := 1, cells := 0, slots := 0, locals := 14 } : Room)) (fun a U => a = #[(.ref a1), (.ref a2)] ∧ Z.Warmed39 U.vm ∧ U.heap = h0) (fun _ _ _ _ _ => True) (fun _ U o U' => ∃ v L, o = .returned v ∧ Q_rmCon Z a1 a2 t1 c0 M r h0 n0 (v) U'.heap (L) ∧ FrameEnd U o U' L 0 0) := by
  refine MetFree.of_bodySF (plainFor_of_name own_pn4) hisR ?_
  intro p e s m args below meth c s₁ Bd hml0 hP hK
  obtain ⟨rfl, hZ, hh⟩ := hP
  have hx := Bd.exec
  have hby := Bd.bytes
  have hml : c.maxLocals = 3 := hml0
  have hown : s.vm.findClass "com/example/dramatis/dramatis/analysis/RoleGraph$Targets" = some m.cls := findClass_of_methodNamed Bd.named
  have hnm := (name_of_methodNamed Bd.named Bd.method).1
  have X0 : Stand p l e ({ frames := 1, cells := 0, slots := 0, locals := 14 } : Room) s m #[(.ref a1), (.ref a2)] below meth c s₁ [] 0 0 := Stand.of_body Bd
  have e0 : s₁.heap = h0 := by rw [← hh, Bd.state]; rfl
  have N0 := Fr.nil n0
  have pre0 : ∀ tgt, Steps p.tables e below (s₁.setTop (mkF m 0 #[.val (.ref a1), .val (.ref a2), .unset] [])) tgt → Steps p.tables e below (s₁.setTop (entryFrame m #[(.ref a1), (.ref a2)] 3)) tgt := fun tgt k => castTop (ef_rmCon m a1 a2) k
  obtain ⟨lo, ha, kc, z, hi, n, ll, E1, Fl, Fh, Fs, Av, hfr, hzb, hz0, hM, hnd, hmm, hn, hlc⟩ := TG1
  have ne1 : a1 ≠ ha := by obtain ⟨cc, A, -⟩ := Av; exact ne_arr E1 (hw _ (List.mem_of_getElem? (i := 1) rfl)) A
  have zn : ¬ z < 0 := by obtain ⟨cc, -, -, -, q, -⟩ := Av; exact q
  obtain ⟨T1, X1, eh1, st1⟩ := instY X0 hx hZ hown (hw _ (List.mem_of_getElem? (i := 48) rfl)) e0 (Ins.self EB) (g := (mkF m 1 #[.val (.ref a1), .val (.ref a2), .unset] [(.ref a2)])) rfl rfl (hb hby own_d_prog_31_6_1)
  obtain ⟨T2, X2, eh2, st2⟩ := castY X1 hx hZ hown (hw _ (List.mem_of_getElem? (i := 48) rfl)) eh1 (Ins.self EB) (g := (mkF m 8 #[.val (.ref a1), .val (.ref a2), .unset] [(.ref a2)])) rfl rfl (hb hby own_d_prog_31_6_8)
  obtain ⟨cq3, kq3, q3a, q3b, q3c⟩ := isOf hZ eh2 EB
  obtain ⟨_, _, ⟨T3, L3, k3, n3⟩, -, X3, ⟨Lc3, hQ3, l3, y3, z3⟩, st3⟩ := X2.virtualBack hx (y := (⟨"java/lang/Integer", "intValue", "()I"⟩ : MethodName)) (z := (⟨"java/lang/Integer", "intValue", "()I"⟩ : MethodName)) hown (mvT hZ (hw _ (List.mem_of_getElem? (i := 50) rfl))) (mvT hZ (hw _ (List.mem_of_getElem? (i := 51) rfl))) (notFace_of_selects (args := #[]) (mvT hZ (hw _ (List.mem_of_getElem? (i := 53) rfl)))) (mvT hZ (hw _ (List.mem_of_getElem? (i := 53) rfl))) (mvT hZ (hw _ (List.mem_of_getElem? (i := 52) rfl))) (by decide) (backOf (W := 0) (rmIV l Z a0 hw [] a2 t1 h0 n0 Z0 FB) hZ (hw _ (List.mem_of_getElem? (i := 54) rfl)) (hw _ (List.mem_of_getElem? (i := 33) rfl)) (by decide) (by decide)) q3a q3c (g := (mkF m 13 #[.val (.ref a1), .val (.ref a2), .val (.ref a2)] [(.ref a2)])) rfl (by rw [hml]; rfl) (Steps.refl _) (argsL := []) (rest := []) (lenOf own_pd5 rfl) rfl (by show 2 * 0 + _ ≤ _; exact Nat.le_of_eq rfl) (hb hby own_d_prog_31_6_13) (fun _ _ => ⟨rfl, eh2, (by decide : 0 + 0 ≤ _), (by decide : 0 + 0 ≤ _)⟩)
  dsimp only [Pt.U, Pt.locs, Pt.cells, Pt.slots] at X3 l3 y3 z3 st3 hQ3
  subst l3 y3 z3
  obtain ⟨rfl, N3q, eq3⟩ := hQ3
  have N3 := Fr.app N0 N3q
  obtain ⟨cq4, kq4, q4a, q4b, q4c⟩ := isOf hZ eq3 EB
  obtain ⟨_, _, ⟨T4, L4, k4, n4⟩, -, X4, ⟨Lc4, hQ4, l4, y4, z4⟩, st4⟩ := X3.virtualBack hx (y := (⟨"java/lang/Integer", "intValue", "()I"⟩ : MethodName)) (z := (⟨"java/lang/Integer", "intValue", "()I"⟩ : MethodName)) hown (mvT hZ (hw _ (List.mem_of_getElem? (i := 50) rfl))) (mvT hZ (hw _ (List.mem_of_getElem? (i := 51) rfl))) (notFace_of_selects (args := #[]) (mvT hZ (hw _ (List.mem_of_getElem? (i := 53) rfl)))) (mvT hZ (hw _ (List.mem_of_getElem? (i := 53) rfl))) (mvT hZ (hw _ (List.mem_of_getElem? (i := 52) rfl))) (by decide) (backOf (W := 1) (rmIV l Z a0 hw [] a2 t1 h0 n0 Z0 FB) hZ (hw _ (List.mem_of_getElem? (i := 54) rfl)) (hw _ (List.mem_of_getElem? (i := 33) rfl)) (by decide) (by decide)) q4a q4c (g := (mkF m 22 #[.val (.ref a1), .val (.ref a2), .val (.ref a2)] [(.ref a2), (.ref a1)])) rfl (by rw [hml]; rfl) (Steps.refl _) (argsL := []) (rest := [(.ref a1)]) (lenOf own_pd5 rfl) rfl (by show 2 * 0 + _ ≤ _; exact Nat.le_of_eq rfl) (hb hby own_d_prog_31_6_22) (fun _ _ => ⟨rfl, eq3, (by decide : 0 + 0 ≤ _), (by decide : 0 + 0 ≤ _)⟩)
  dsimp only [Pt.U, Pt.locs, Pt.cells, Pt.slots] at X4 l4 y4 z4 st4 hQ4
  subst l4 y4 z4
  obtain ⟨rfl, N4q, eq4⟩ := hQ4
  have N4 := Fr.app N3 N4q
  obtain ⟨cq5, q5, q5'⟩ := E1.cell
  obtain ⟨_, _, ⟨T5, L5, k5, n5⟩, -, X5, ⟨Lc5, hQ5, l5, y5, z5⟩, st5⟩ := X4.privateBack hx (y := (⟨"com/example/dramatis/dramatis/analysis/RoleGraph$Targets", "has", "(I)Z"⟩ : MethodName)) hown (mvT hZ (hw _ (List.mem_of_getElem? (i := 57) rfl))) (mvT hZ (hw _ (List.mem_of_getElem? (i := 58) rfl))) (own_selPriv (mvT hZ (hw _ (List.mem_of_getElem? (i := 1) rfl))) (Cond.privateMethod_at (mvP hZ (hw _ (List.mem_of_getElem? (i := 59) rfl)) (args := #[]))) (mvT hZ (hw _ (List.mem_of_getElem? (i := 58) rfl))) (by decide)) (Cond.privateMethod_at (mvP hZ (hw _ (List.mem_of_getElem? (i := 59) rfl)) (args := #[]))) (mvT hZ (hw _ (List.mem_of_getElem? (i := 60) rfl))) (by decide) (backOf (W := 0) (rmHas l Z a0 hw [] a1 (t1 + (1 : Int32)) lo ha kc z hi r h0 n0 Z0 Fl Fh Av hz0 zn k1 (by rw [hM _ k1]; exact hr1)) hZ (hw _ (List.mem_of_getElem? (i := 60) rfl)) (hw _ (List.mem_of_getElem? (i := 2) rfl)) (by decide) (by decide)) (g := (mkF m 27 #[.val (.ref a1), .val (.ref a2), .val (.ref a2)] [(.int (t1 + (1 : Int32))), (.ref a1)])) rfl (by rw [hml]; rfl) (Steps.refl _) (a := a1) (by rw [eq4]; exact q5) q5' (argsL := [(.int (t1 + (1 : Int32)))]) (rest := []) (lenOf own_pd3 rfl) rfl (by show 2 * 0 + _ ≤ _; exact Nat.le_of_eq rfl) (hb hby own_d_prog_31_6_27) (fun _ _ => ⟨rfl, eq4, (by decide : 0 + 0 ≤ _), (by decide : 0 + 0 ≤ _)⟩)
  dsimp only [Pt.U, Pt.locs, Pt.cells, Pt.slots] at X5 l5 y5 z5 st5 hQ5
  subst l5 y5 z5
  obtain ⟨rfl, N5q, eq5⟩ := hQ5
  have N5 := Fr.app N4 N5q
  have pre6 : ∀ tgt, Steps p.tables e below (T5.setTop (mkF m 30 #[.val (.ref a1), .val (.ref a2), .val (.ref a2)] [(.int r)])) tgt → Steps p.tables e below (s₁.setTop (entryFrame m #[(.ref a1), (.ref a2)] 3)) tgt := fun tgt kt_ => by
    refine pre0 _ ?_
    show Steps p.tables e below (s₁.setTop (mkF m 0 #[.val (.ref a1), .val (.ref a2), .unset] [])) _
    refine XS.aloadN X0.here hx rfl (hb hby own_d_prog_31_6_0) rfl rfl ?_
    show Steps p.tables e below (s₁.setTop (mkF m 1 #[.val (.ref a1), .val (.ref a2), .unset] [(.ref a2)])) _
    refine st1 _ ?_
    show Steps p.tables e below (T1.setTop (mkF m 4 #[.val (.ref a1), .val (.ref a2), .unset] [(.int (1 : Int32))])) _
    refine XS.ifNo X1.here hx rfl (hb hby own_d_prog_31_6_4) rfl ((if0 _ _).trans (feq (by decide : ¬ ((1 : Int32) = (0 : Int32)))).1) ?_
    show Steps p.tables e below (T1.setTop (mkF m 7 #[.val (.ref a1), .val (.ref a2), .unset] [])) _
    refine XS.aloadN X1.here hx rfl (hb hby own_d_prog_31_6_7) rfl rfl ?_
    show Steps p.tables e below (T1.setTop (mkF m 8 #[.val (.ref a1), .val (.ref a2), .unset] [(.ref a2)])) _
    refine st2 _ ?_
    show Steps p.tables e below (T2.setTop (mkF m 11 #[.val (.ref a1), .val (.ref a2), .unset] [(.ref a2)])) _
    refine XS.astoreN X2.here hx rfl (hb hby own_d_prog_31_6_11) rfl rfl (l' := #[.val (.ref a1), .val (.ref a2), .val (.ref a2)]) rfl ?_
    show Steps p.tables e below (T2.setTop (mkF m 12 #[.val (.ref a1), .val (.ref a2), .val (.ref a2)] [])) _
    refine XS.aloadN X2.here hx rfl (hb hby own_d_prog_31_6_12) rfl rfl ?_
    show Steps p.tables e below (T2.setTop (mkF m 13 #[.val (.ref a1), .val (.ref a2), .val (.ref a2)] [(.ref a2)])) _
    refine st3.trans ?_
    show Steps p.tables e below (T3.setTop (mkF m 16 #[.val (.ref a1), .val (.ref a2), .val (.ref a2)] [(.int t1)])) _
    refine XS.iconst X3.here hx rfl (hb hby own_d_prog_31_6_16) ?_
    show Steps p.tables e below (T3.setTop (mkF m 17 #[.val (.ref a1), .val (.ref a2), .val (.ref a2)] [(.int (-1 : Int32)), (.int t1)])) _
    refine XS.icmpNo X3.here hx rfl (hb hby own_d_prog_31_6_17) rfl (flt ktm).1 ?_
    show Steps p.tables e below (T3.setTop (mkF m 20 #[.val (.ref a1), .val (.ref a2), .val (.ref a2)] [])) _
    refine XS.aloadN X3.here hx rfl (hb hby own_d_prog_31_6_20) rfl rfl ?_
    show Steps p.tables e below (T3.setTop (mkF m 21 #[.val (.ref a1), .val (.ref a2), .val (.ref a2)] [(.ref a1)])) _
    refine XS.aloadN X3.here hx rfl (hb hby own_d_prog_31_6_21) rfl rfl ?_
    show Steps p.tables e below (T3.setTop (mkF m 22 #[.val (.ref a1), .val (.ref a2), .val (.ref a2)] [(.ref a2), (.ref a1)])) _
    refine st4.trans ?_
    show Steps p.tables e below (T4.setTop (mkF m 25 #[.val (.ref a1), .val (.ref a2), .val (.ref a2)] [(.int t1), (.ref a1)])) _
    refine XS.iconst X4.here hx rfl (hb hby own_d_prog_31_6_25) ?_
    show Steps p.tables e below (T4.setTop (mkF m 26 #[.val (.ref a1), .val (.ref a2), .val (.ref a2)] [(.int (1 : Int32)), (.int t1), (.ref a1)])) _
    refine XS.iadd X4.here hx rfl (hb hby own_d_prog_31_6_26) rfl ?_
    show Steps p.tables e below (T4.setTop (mkF m 27 #[.val (.ref a1), .val (.ref a2), .val (.ref a2)] [(.int (t1 + (1 : Int32))), (.ref a1)])) _
    refine st5.trans ?_
    show Steps p.tables e below (T5.setTop (mkF m 30 #[.val (.ref a1), .val (.ref a2), .val (.ref a2)] [(.int r)])) _
    exact kt_
  rcases Decidable.em (r = (0 : Int32)) with hc30_7 | hc30_7
  ·
    obtain ⟨fs, hr, hrun, hended, hW, hsame⟩ := X5.leave (v := some (.int (0 : Int32))) (fun h => by rw [Bd.returns] at h; cases h)
    refine ⟨_, _, pre6 _ ?_, hrun, hended, _, _, rfl, ?_, ⟨_, rfl⟩, hW, hsame.mono (by decide) (by decide)⟩
    ·
      show Steps p.tables e below (T5.setTop (mkF m 30 #[.val (.ref a1), .val (.ref a2), .val (.ref a2)] [(.int r)])) _
      refine XS.ifYes X5.here hx rfl (pc0 := 30) (pc' := 37) rfl (hb hby own_d_prog_31_6_30) rfl ((if0 _ _).trans (teq hc30_7).1) (by decide) (by decide) ?_
      show Steps p.tables e below (T5.setTop (mkF m 37 #[.val (.ref a1), .val (.ref a2), .val (.ref a2)] [])) _
      refine XS.iconst X5.here hx rfl (hb hby own_d_prog_31_6_37) ?_
      show Steps p.tables e below (T5.setTop (mkF m 38 #[.val (.ref a1), .val (.ref a2), .val (.ref a2)] [(.int (0 : Int32))])) _
      exact retN X5 hx (t := .boolean) Bd.returns (by simp) (hb hby own_d_prog_31_6_38) hr
    ·
      show Q_rmCon Z a1 a2 t1 c0 M r h0 n0 (_) T5.heap (_)
      rw [eq5]
      exact ⟨by rw [hc30_7], N5, rfl⟩
  ·
    obtain ⟨fs, hr, hrun, hended, hW, hsame⟩ := X5.leave (v := some (.int (1 : Int32))) (fun h => by rw [Bd.returns] at h; cases h)
    refine ⟨_, _, pre6 _ ?_, hrun, hended, _, _, rfl, ?_, ⟨_, rfl⟩, hW, hsame.mono (by decide) (by decide)⟩
    ·
      show Steps p.tables e below (T5.setTop (mkF m 30 #[.val (.ref a1), .val (.ref a2), .val (.ref a2)] [(.int r)])) _
      refine XS.ifNo X5.here hx rfl (hb hby own_d_prog_31_6_30) rfl ((if0 _ _).trans (feq hc30_7).1) ?_
      show Steps p.tables e below (T5.setTop (mkF m 33 #[.val (.ref a1), .val (.ref a2), .val (.ref a2)] [])) _
      refine XS.iconst X5.here hx rfl (hb hby own_d_prog_31_6_33) ?_
      show Steps p.tables e below (T5.setTop (mkF m 34 #[.val (.ref a1), .val (.ref a2), .val (.ref a2)] [(.int (1 : Int32))])) _
      refine XS.goto X5.here hx rfl (pc0 := 34) (pc' := 38) rfl (hb hby own_d_prog_31_6_34) (by decide) (by decide) ?_
      show Steps p.tables e below (T5.setTop (mkF m 38 #[.val (.ref a1), .val (.ref a2), .val (.ref a2)] [(.int (1 : Int32))])) _
      exact retN X5 hx (t := .boolean) Bd.returns (by simp) (hb hby own_d_prog_31_6_38) hr
    ·
      show Q_rmCon Z a1 a2 t1 c0 M r h0 n0 (_) T5.heap (_)
      rw [eq5]
      exact ⟨own_r1 hr1 hc30_7, N5, rfl⟩
theorem own_d_prog_31_13_0 : decode prog_31_method_13_code 0 = .ok (.aload_n 0, 1) := by decide +kernel
theorem own_d_prog_31_13_1 : decode prog_31_method_13_code 1 = .ok (.aload_n 1, 1) := by decide +kernel
theorem own_d_prog_31_13_2 : decode prog_31_method_13_code 2 = .ok (.invokevirtual 78, 3) := by decide +kernel
theorem own_pd6 : parseMethodDescriptor "(Ljava/lang/Object;)Z" = some ⟨[(.object "java/lang/Object")], some .boolean⟩ := by decide +kernel
theorem own_d_prog_31_13_5 : decode prog_31_method_13_code 5 = .ok (.istore_n 2, 1) := by decide +kernel
theorem own_d_prog_31_13_6 : decode prog_31_method_13_code 6 = .ok (.iload_n 2, 1) := by decide +kernel
theorem own_d_prog_31_13_7 : decode prog_31_method_13_code 7 = .ok (.ifCond .eq 16, 3) := by decide +kernel
theorem own_d_prog_31_13_10 : decode prog_31_method_13_code 10 = .ok (.aload_n 0, 1) := by decide +kernel
theorem own_d_prog_31_13_11 : decode prog_31_method_13_code 11 = .ok (.aload_n 1, 1) := by decide +kernel
theorem own_d_prog_31_13_12 : decode prog_31_method_13_code 12 = .ok (.checkcast 39, 3) := by decide +kernel
theorem own_d_prog_31_13_15 : decode prog_31_method_13_code 15 = .ok (.invokevirtual 41, 3) := by decide +kernel
theorem own_d_prog_31_13_18 : decode prog_31_method_13_code 18 = .ok (.iconst 1, 1) := by decide +kernel
theorem own_d_prog_31_13_19 : decode prog_31_method_13_code 19 = .ok (.iadd, 1) := by decide +kernel
theorem own_d_prog_31_13_20 : decode prog_31_method_13_code 20 = .ok (.invokevirtual 82, 3) := by decide +kernel
theorem own_d_prog_31_13_23 : decode prog_31_method_13_code 23 = .ok (.iload_n 2, 1) := by decide +kernel
theorem own_d_prog_31_13_24 : decode prog_31_method_13_code 24 = .ok (.ireturn, 1) := by decide +kernel
theorem ef_rmRem (m : MethodId) (a1 : Addr) (a2 : Addr) : entryFrame m #[(.ref a1), (.ref a2)] 3 = mkF m 0 #[.val (.ref a1), .val (.ref a2), .unset] [] := by first | (simp [entryFrame, mkF, argsToLocals, Value.category]; done) | rfl
def Q_rmRem (Z : State) (a1 : Addr) (a2 : Addr) (t1 : Int32) (c0 : Nat) (M : Int32 → Bool) (h0 : Heap) (n0 : Nat) (v : Option Value) (h : Heap) (L : List Loc) : Prop := ∃ r, v = some (.int r) ∧ Fr n0 L ∧ Old Z n0 h ∧ Tg Z h n0 a1 c0 (own_rm (t1 + (1 : Int32)) M)
set_option maxRecDepth 65536 in
set_option maxHeartbeats 40000000 in
theorem rmRem (l : Launch) (Z : State) (a0 : Array Value) (hw : ∀ d ∈ tables_1, d.before a0 Z = true) (ws : List Jvm.Cond) (a1 : Addr) (a2 : Addr) (t1 : Int32) (c0 : Nat) (M : Int32 → Bool) (h0 : Heap) (n0 : Nat) (Z0 : n0 ≤ h0.size) (TG1 : Tg Z h0 n0 a1 c0 M) (g1 : n0 ≤ a1) (O0 : Old Z n0 h0) (EB : Exa Z h0 a2 "java/lang/Integer") (FB : Fld Z h0 a2 "java/lang/Integer" "value" "I" (.int t1)) (k1 : own_in (t1 + (1 : Int32))) (ktm : ¬ t1 < (-1 : Int32)) (E1 : Exa Z h0 a1 "com/example/dramatis/dramatis/analysis/RoleGraph$Targets") :
    MetFree l (⟨"com/example/dramatis/dramatis/analysis/RoleGraph$Targets", "remove", "(Ljava/lang/Object;)Z"⟩ : MethodName) (head1 (Jvm.Cond.code (⟨"com/example/dramatis/dramatis/analysis/RoleGraph$Targets", "remove", "(Ljava/lang/Object;)Z"⟩ : MethodName) prog_31_method_13_code 3 (some .boolean) :: ws) ({ frames := 2, cells := 0, slots := 0, locals := 28 } : Room)) (fun a U => a = #[(.ref a1), (.ref a2)] ∧ Z.Warmed39 U.vm ∧ U.heap = h0) (fun _ _ _ _ _ => True) (fun _ U o U' => ∃ v L, o = .returned v ∧ Q_rmRem Z a1 a2 t1 c0 M h0 n0 (v) U'.heap (L) ∧ FrameEnd U o U' L 0 0) := by
  refine MetFree.of_bodySF (plainFor_of_name own_pn4) hisR ?_
  intro p e s m args below meth c s₁ Bd hml0 hP hK
  obtain ⟨rfl, hZ, hh⟩ := hP
  have hx := Bd.exec
  have hby := Bd.bytes
  have hml : c.maxLocals = 3 := hml0
  have hown : s.vm.findClass "com/example/dramatis/dramatis/analysis/RoleGraph$Targets" = some m.cls := findClass_of_methodNamed Bd.named
  have hnm := (name_of_methodNamed Bd.named Bd.method).1
  have X0 : Stand p l e ({ frames := 2, cells := 0, slots := 0, locals := 28 } : Room) s m #[(.ref a1), (.ref a2)] below meth c s₁ [] 0 0 := Stand.of_body Bd
  have e0 : s₁.heap = h0 := by rw [← hh, Bd.state]; rfl
  have N0 := Fr.nil n0
  have pre0 : ∀ tgt, Steps p.tables e below (s₁.setTop (mkF m 0 #[.val (.ref a1), .val (.ref a2), .unset] [])) tgt → Steps p.tables e below (s₁.setTop (entryFrame m #[(.ref a1), (.ref a2)] 3)) tgt := fun tgt k => castTop (ef_rmRem m a1 a2) k
  rcases Bool.eq_false_or_eq_true (M (t1 + (1 : Int32))) with hm | hm
  ·
    obtain ⟨cq1, kq1, q1a, q1b, q1c⟩ := isOf hZ e0 E1
    obtain ⟨_, _, ⟨T1, L1, k1, n1⟩, -, X1, ⟨Lc1, hQ1, l1, y1, z1⟩, st1⟩ := X0.virtualBack hx (y := (⟨"com/example/dramatis/dramatis/analysis/RoleGraph$Targets", "contains", "(Ljava/lang/Object;)Z"⟩ : MethodName)) (z := (⟨"com/example/dramatis/dramatis/analysis/RoleGraph$Targets", "contains", "(Ljava/lang/Object;)Z"⟩ : MethodName)) hown (mvT hZ (hw _ (List.mem_of_getElem? (i := 43) rfl))) (mvT hZ (hw _ (List.mem_of_getElem? (i := 44) rfl))) (notFace_of_selects (args := #[]) (mvT hZ (hw _ (List.mem_of_getElem? (i := 46) rfl)))) (mvT hZ (hw _ (List.mem_of_getElem? (i := 46) rfl))) (mvT hZ (hw _ (List.mem_of_getElem? (i := 45) rfl))) (by decide) (backOf (W := 0) (rmCon l Z a0 hw [] a1 a2 t1 c0 M (1 : Int32) h0 n0 Z0 TG1 EB FB k1 ktm (by rw [hm]; rfl)) hZ (hw _ (List.mem_of_getElem? (i := 47) rfl)) (hw _ (List.mem_of_getElem? (i := 2) rfl)) (by decide) (by decide)) q1a q1c (g := (mkF m 2 #[.val (.ref a1), .val (.ref a2), .unset] [(.ref a2), (.ref a1)])) rfl (by rw [hml]; rfl) (Steps.refl _) (argsL := [(.ref a2)]) (rest := []) (lenOf own_pd6 rfl) rfl (by show 2 * 0 + _ ≤ _; exact Nat.le_of_eq rfl) (hb hby own_d_prog_31_13_2) (fun _ _ => ⟨rfl, e0, (by decide : 0 + 0 ≤ _), (by decide : 0 + 0 ≤ _)⟩)
    dsimp only [Pt.U, Pt.locs, Pt.cells, Pt.slots] at X1 l1 y1 z1 st1 hQ1
    subst l1 y1 z1
    obtain ⟨rfl, N1q, eq1⟩ := hQ1
    have N1 := Fr.app N0 N1q
    obtain ⟨T2, X2, eh2, st2⟩ := castY X1 hx hZ hown (hw _ (List.mem_of_getElem? (i := 48) rfl)) eq1 (Ins.self EB) (g := (mkF m 12 #[.val (.ref a1), .val (.ref a2), .val (.int (1 : Int32))] [(.ref a2), (.ref a1)])) rfl rfl (hb hby own_d_prog_31_13_12)
    obtain ⟨cq3, kq3, q3a, q3b, q3c⟩ := isOf hZ eh2 EB
    obtain ⟨_, _, ⟨T3, L3, k3, n3⟩, -, X3, ⟨Lc3, hQ3, l3, y3, z3⟩, st3⟩ := X2.virtualBack hx (y := (⟨"java/lang/Integer", "intValue", "()I"⟩ : MethodName)) (z := (⟨"java/lang/Integer", "intValue", "()I"⟩ : MethodName)) hown (mvT hZ (hw _ (List.mem_of_getElem? (i := 50) rfl))) (mvT hZ (hw _ (List.mem_of_getElem? (i := 51) rfl))) (notFace_of_selects (args := #[]) (mvT hZ (hw _ (List.mem_of_getElem? (i := 53) rfl)))) (mvT hZ (hw _ (List.mem_of_getElem? (i := 53) rfl))) (mvT hZ (hw _ (List.mem_of_getElem? (i := 52) rfl))) (by decide) (backOf (W := 1) (rmIV l Z a0 hw [] a2 t1 h0 n0 Z0 FB) hZ (hw _ (List.mem_of_getElem? (i := 54) rfl)) (hw _ (List.mem_of_getElem? (i := 33) rfl)) (by decide) (by decide)) q3a q3c (g := (mkF m 15 #[.val (.ref a1), .val (.ref a2), .val (.int (1 : Int32))] [(.ref a2), (.ref a1)])) rfl (by rw [hml]; rfl) (Steps.refl _) (argsL := []) (rest := [(.ref a1)]) (lenOf own_pd5 rfl) rfl (by show 2 * 0 + _ ≤ _; exact Nat.le_of_eq rfl) (hb hby own_d_prog_31_13_15) (fun _ _ => ⟨rfl, eh2, (by decide : 0 + 0 ≤ _), (by decide : 0 + 0 ≤ _)⟩)
    dsimp only [Pt.U, Pt.locs, Pt.cells, Pt.slots] at X3 l3 y3 z3 st3 hQ3
    subst l3 y3 z3
    obtain ⟨rfl, N3q, eq3⟩ := hQ3
    have N3 := Fr.app N1 N3q
    obtain ⟨cq4, q4, q4'⟩ := E1.cell
    obtain ⟨_, _, ⟨T4, L4, k4, n4⟩, -, X4, ⟨Lc4, hQ4, l4, y4, z4⟩, st4⟩ := X3.privateBack hx (y := (⟨"com/example/dramatis/dramatis/analysis/RoleGraph$Targets", "clearBit", "(I)V"⟩ : MethodName)) hown (mvT hZ (hw _ (List.mem_of_getElem? (i := 97) rfl))) (mvT hZ (hw _ (List.mem_of_getElem? (i := 98) rfl))) (own_selPriv (mvT hZ (hw _ (List.mem_of_getElem? (i := 1) rfl))) (Cond.privateMethod_at (mvP hZ (hw _ (List.mem_of_getElem? (i := 99) rfl)) (args := #[]))) (mvT hZ (hw _ (List.mem_of_getElem? (i := 98) rfl))) (by decide)) (Cond.privateMethod_at (mvP hZ (hw _ (List.mem_of_getElem? (i := 99) rfl)) (args := #[]))) (mvT hZ (hw _ (List.mem_of_getElem? (i := 100) rfl))) (by decide) (backOf (W := 0) (rmClr l Z a0 hw [] a1 (t1 + (1 : Int32)) c0 M h0 n0 Z0 TG1 g1 O0 k1 hm) hZ (hw _ (List.mem_of_getElem? (i := 100) rfl)) (hw _ (List.mem_of_getElem? (i := 2) rfl)) (by decide) (by decide)) (g := (mkF m 20 #[.val (.ref a1), .val (.ref a2), .val (.int (1 : Int32))] [(.int (t1 + (1 : Int32))), (.ref a1)])) rfl (by rw [hml]; rfl) (Steps.refl _) (a := a1) (by rw [eq3]; exact q4) q4' (argsL := [(.int (t1 + (1 : Int32)))]) (rest := []) (lenOf own_pd1 rfl) rfl (by show 2 * 0 + _ ≤ _; exact Nat.le_of_eq rfl) (hb hby own_d_prog_31_13_20) (fun _ _ => ⟨rfl, eq3, (by decide : 0 + 0 ≤ _), (by decide : 0 + 0 ≤ _)⟩)
    dsimp only [Pt.U, Pt.locs, Pt.cells, Pt.slots] at X4 l4 y4 z4 st4 hQ4
    subst l4 y4 z4
    obtain ⟨rfl, N4q, O4, Tg4⟩ := hQ4
    have N4 := Fr.app N3 N4q
    have Zs4 : n0 ≤ T4.heap.size := own_osz O4
    obtain ⟨fs, hr, hrun, hended, hW, hsame⟩ := X4.leave (v := some (.int (1 : Int32))) (fun h => by rw [Bd.returns] at h; cases h)
    refine ⟨_, _, pre0 _ ?_, hrun, hended, _, _, rfl, ?_, ⟨_, rfl⟩, hW, hsame.mono (by decide) (by decide)⟩
    ·
      show Steps p.tables e below (s₁.setTop (mkF m 0 #[.val (.ref a1), .val (.ref a2), .unset] [])) _
      refine XS.aloadN X0.here hx rfl (hb hby own_d_prog_31_13_0) rfl rfl ?_
      show Steps p.tables e below (s₁.setTop (mkF m 1 #[.val (.ref a1), .val (.ref a2), .unset] [(.ref a1)])) _
      refine XS.aloadN X0.here hx rfl (hb hby own_d_prog_31_13_1) rfl rfl ?_
      show Steps p.tables e below (s₁.setTop (mkF m 2 #[.val (.ref a1), .val (.ref a2), .unset] [(.ref a2), (.ref a1)])) _
      refine st1.trans ?_
      show Steps p.tables e below (T1.setTop (mkF m 5 #[.val (.ref a1), .val (.ref a2), .unset] [(.int (1 : Int32))])) _
      refine XS.istoreN X1.here hx rfl (hb hby own_d_prog_31_13_5) rfl (l' := #[.val (.ref a1), .val (.ref a2), .val (.int (1 : Int32))]) rfl ?_
      show Steps p.tables e below (T1.setTop (mkF m 6 #[.val (.ref a1), .val (.ref a2), .val (.int (1 : Int32))] [])) _
      refine XS.iloadN X1.here hx rfl (hb hby own_d_prog_31_13_6) rfl ?_
      show Steps p.tables e below (T1.setTop (mkF m 7 #[.val (.ref a1), .val (.ref a2), .val (.int (1 : Int32))] [(.int (1 : Int32))])) _
      refine XS.ifNo X1.here hx rfl (hb hby own_d_prog_31_13_7) rfl ((if0 _ _).trans (feq (by decide : ¬ ((1 : Int32) = (0 : Int32)))).1) ?_
      show Steps p.tables e below (T1.setTop (mkF m 10 #[.val (.ref a1), .val (.ref a2), .val (.int (1 : Int32))] [])) _
      refine XS.aloadN X1.here hx rfl (hb hby own_d_prog_31_13_10) rfl rfl ?_
      show Steps p.tables e below (T1.setTop (mkF m 11 #[.val (.ref a1), .val (.ref a2), .val (.int (1 : Int32))] [(.ref a1)])) _
      refine XS.aloadN X1.here hx rfl (hb hby own_d_prog_31_13_11) rfl rfl ?_
      show Steps p.tables e below (T1.setTop (mkF m 12 #[.val (.ref a1), .val (.ref a2), .val (.int (1 : Int32))] [(.ref a2), (.ref a1)])) _
      refine st2 _ ?_
      show Steps p.tables e below (T2.setTop (mkF m 15 #[.val (.ref a1), .val (.ref a2), .val (.int (1 : Int32))] [(.ref a2), (.ref a1)])) _
      refine st3.trans ?_
      show Steps p.tables e below (T3.setTop (mkF m 18 #[.val (.ref a1), .val (.ref a2), .val (.int (1 : Int32))] [(.int t1), (.ref a1)])) _
      refine XS.iconst X3.here hx rfl (hb hby own_d_prog_31_13_18) ?_
      show Steps p.tables e below (T3.setTop (mkF m 19 #[.val (.ref a1), .val (.ref a2), .val (.int (1 : Int32))] [(.int (1 : Int32)), (.int t1), (.ref a1)])) _
      refine XS.iadd X3.here hx rfl (hb hby own_d_prog_31_13_19) rfl ?_
      show Steps p.tables e below (T3.setTop (mkF m 20 #[.val (.ref a1), .val (.ref a2), .val (.int (1 : Int32))] [(.int (t1 + (1 : Int32))), (.ref a1)])) _
      refine st4.trans ?_
      show Steps p.tables e below (T4.setTop (mkF m 23 #[.val (.ref a1), .val (.ref a2), .val (.int (1 : Int32))] [])) _
      refine XS.iloadN X4.here hx rfl (hb hby own_d_prog_31_13_23) rfl ?_
      show Steps p.tables e below (T4.setTop (mkF m 24 #[.val (.ref a1), .val (.ref a2), .val (.int (1 : Int32))] [(.int (1 : Int32))])) _
      exact retN X4 hx (t := .boolean) Bd.returns (by simp) (hb hby own_d_prog_31_13_24) hr
    ·
      show Q_rmRem Z a1 a2 t1 c0 M h0 n0 (_) T4.heap (_)
      exact ⟨_, rfl, N4, O4, Tg4⟩
  ·
    obtain ⟨cq5, kq5, q5a, q5b, q5c⟩ := isOf hZ e0 E1
    obtain ⟨_, _, ⟨T5, L5, k5, n5⟩, -, X5, ⟨Lc5, hQ5, l5, y5, z5⟩, st5⟩ := X0.virtualBack hx (y := (⟨"com/example/dramatis/dramatis/analysis/RoleGraph$Targets", "contains", "(Ljava/lang/Object;)Z"⟩ : MethodName)) (z := (⟨"com/example/dramatis/dramatis/analysis/RoleGraph$Targets", "contains", "(Ljava/lang/Object;)Z"⟩ : MethodName)) hown (mvT hZ (hw _ (List.mem_of_getElem? (i := 43) rfl))) (mvT hZ (hw _ (List.mem_of_getElem? (i := 44) rfl))) (notFace_of_selects (args := #[]) (mvT hZ (hw _ (List.mem_of_getElem? (i := 46) rfl)))) (mvT hZ (hw _ (List.mem_of_getElem? (i := 46) rfl))) (mvT hZ (hw _ (List.mem_of_getElem? (i := 45) rfl))) (by decide) (backOf (W := 0) (rmCon l Z a0 hw [] a1 a2 t1 c0 M (0 : Int32) h0 n0 Z0 TG1 EB FB k1 ktm (by rw [hm]; rfl)) hZ (hw _ (List.mem_of_getElem? (i := 47) rfl)) (hw _ (List.mem_of_getElem? (i := 2) rfl)) (by decide) (by decide)) q5a q5c (g := (mkF m 2 #[.val (.ref a1), .val (.ref a2), .unset] [(.ref a2), (.ref a1)])) rfl (by rw [hml]; rfl) (Steps.refl _) (argsL := [(.ref a2)]) (rest := []) (lenOf own_pd6 rfl) rfl (by show 2 * 0 + _ ≤ _; exact Nat.le_of_eq rfl) (hb hby own_d_prog_31_13_2) (fun _ _ => ⟨rfl, e0, (by decide : 0 + 0 ≤ _), (by decide : 0 + 0 ≤ _)⟩)
    dsimp only [Pt.U, Pt.locs, Pt.cells, Pt.slots] at X5 l5 y5 z5 st5 hQ5
    subst l5 y5 z5
    obtain ⟨rfl, N5q, eq5⟩ := hQ5
    have N5 := Fr.app N0 N5q
    obtain ⟨fs, hr, hrun, hended, hW, hsame⟩ := X5.leave (v := some (.int (0 : Int32))) (fun h => by rw [Bd.returns] at h; cases h)
    refine ⟨_, _, pre0 _ ?_, hrun, hended, _, _, rfl, ?_, ⟨_, rfl⟩, hW, hsame.mono (by decide) (by decide)⟩
    ·
      show Steps p.tables e below (s₁.setTop (mkF m 0 #[.val (.ref a1), .val (.ref a2), .unset] [])) _
      refine XS.aloadN X0.here hx rfl (hb hby own_d_prog_31_13_0) rfl rfl ?_
      show Steps p.tables e below (s₁.setTop (mkF m 1 #[.val (.ref a1), .val (.ref a2), .unset] [(.ref a1)])) _
      refine XS.aloadN X0.here hx rfl (hb hby own_d_prog_31_13_1) rfl rfl ?_
      show Steps p.tables e below (s₁.setTop (mkF m 2 #[.val (.ref a1), .val (.ref a2), .unset] [(.ref a2), (.ref a1)])) _
      refine st5.trans ?_
      show Steps p.tables e below (T5.setTop (mkF m 5 #[.val (.ref a1), .val (.ref a2), .unset] [(.int (0 : Int32))])) _
      refine XS.istoreN X5.here hx rfl (hb hby own_d_prog_31_13_5) rfl (l' := #[.val (.ref a1), .val (.ref a2), .val (.int (0 : Int32))]) rfl ?_
      show Steps p.tables e below (T5.setTop (mkF m 6 #[.val (.ref a1), .val (.ref a2), .val (.int (0 : Int32))] [])) _
      refine XS.iloadN X5.here hx rfl (hb hby own_d_prog_31_13_6) rfl ?_
      show Steps p.tables e below (T5.setTop (mkF m 7 #[.val (.ref a1), .val (.ref a2), .val (.int (0 : Int32))] [(.int (0 : Int32))])) _
      refine XS.ifYes X5.here hx rfl (pc0 := 7) (pc' := 23) rfl (hb hby own_d_prog_31_13_7) rfl ((if0 _ _).trans (teq (by decide : (0 : Int32) = (0 : Int32))).1) (by decide) (by decide) ?_
      show Steps p.tables e below (T5.setTop (mkF m 23 #[.val (.ref a1), .val (.ref a2), .val (.int (0 : Int32))] [])) _
      refine XS.iloadN X5.here hx rfl (hb hby own_d_prog_31_13_23) rfl ?_
      show Steps p.tables e below (T5.setTop (mkF m 24 #[.val (.ref a1), .val (.ref a2), .val (.int (0 : Int32))] [(.int (0 : Int32))])) _
      exact retN X5 hx (t := .boolean) Bd.returns (by simp) (hb hby own_d_prog_31_13_24) hr
    ·
      show Q_rmRem Z a1 a2 t1 c0 M h0 n0 (_) T5.heap (_)
      rw [eq5]
      exact ⟨_, rfl, N5, O0, (Tg.congr TG1 (Nat.le_refl _) (fun j _ => own_rmM hm))⟩
theorem own_d_jdk_65_101_6 : decode jdk_65_method_101_code 6 = .ok (.iload_n 3, 1) := by decide +kernel
theorem own_d_jdk_65_101_7 : decode jdk_65_method_101_code 7 = .ok (.iload 4, 2) := by decide +kernel
theorem own_d_jdk_65_101_9 : decode jdk_65_method_101_code 9 = .ok (.if_icmp .ge 13, 3) := by decide +kernel
theorem own_d_jdk_65_101_12 : decode jdk_65_method_101_code 12 = .ok (.aload_n 0, 1) := by decide +kernel
theorem own_d_jdk_65_101_13 : decode jdk_65_method_101_code 13 = .ok (.iload_n 3, 1) := by decide +kernel
theorem own_d_jdk_65_101_14 : decode jdk_65_method_101_code 14 = .ok (.lload_n 1, 1) := by decide +kernel
theorem own_d_jdk_65_101_15 : decode jdk_65_method_101_code 15 = .ok (.lastore, 1) := by decide +kernel
theorem own_d_jdk_65_101_16 : decode jdk_65_method_101_code 16 = .ok (.iinc 3 1, 3) := by decide +kernel
theorem own_d_jdk_65_101_19 : decode jdk_65_method_101_code 19 = .ok (.goto (-13), 3) := by decide +kernel
set_option maxRecDepth 65536 in
set_option maxHeartbeats 40000000 in
theorem tnFill {p : Program} {l : Launch} {e : Env} {R : Room} {s : State} {m : MethodId} {args : Array Value} {below : List Frame} {meth : Method} {c : Code} {T0 : State} {locs : List Loc} {cells slots : Nat} {Z : State} {a0 : Array Value} {h0 : Heap} {n0 : Nat} (ha : Addr) (kc : ClassId) (z : Int32) (hi : Nat → Int64) (i : Int32)
    (X0 : Stand p l e R s m args below meth c T0 locs cells slots) (hx : p.tables.exec = Jvm.exec) (hZ : Z.Warmed39 s.vm) (hw : ∀ d ∈ tables_1, d.before a0 Z = true) (hby : c.code = jdk_65_method_101_code) (hml : c.maxLocals = 5) (hown : s.vm.findClass "java/util/Arrays" = some m.cls) (e0 : T0.heap = h0) (N0 : Fr n0 locs) (Z0 : n0 ≤ h0.size) (Av : Arv Z h0 ha kc .long z (own_ws hi z) (.long (0 : Int64))) (hz0 : ∀ i, z.toNatClampNeg ≤ i → hi i = 0) (i0 : ¬ i < 0) (ilt : i < z) (gha : n0 ≤ ha) :
    ∃ (T' : State) (h' : Heap) (L' : List Loc), Stand p l e R s m args below meth c T' L' cells slots ∧ T'.heap = h' ∧ Fr n0 L' ∧ (Keep h0 h' [ha] ∧ Arv Z h' ha kc .long z (own_ws (own_upd hi i.toNatClampNeg 0) z) (.long (0 : Int64))) ∧ ∀ tgt, Steps p.tables e below (T'.setTop (mkF m 6 #[.val (.ref ha), .val (.long (0 : Int64)), .second, .val (.int (i + (1 : Int32))), .val (.int z)] [])) tgt → Steps p.tables e below (T0.setTop (mkF m 6 #[.val (.ref ha), .val (.long (0 : Int64)), .second, .val (.int i), .val (.int z)] [])) tgt := by
  have pre0 : ∀ tgt, Steps p.tables e below (T0.setTop (mkF m 6 #[.val (.ref ha), .val (.long (0 : Int64)), .second, .val (.int i), .val (.int z)] [])) tgt → Steps p.tables e below (T0.setTop (mkF m 6 #[.val (.ref ha), .val (.long (0 : Int64)), .second, .val (.int i), .val (.int z)] [])) tgt := fun tgt k => k
  obtain ⟨cl1, Ar1, q1, Sz1, Ng1, Hs1, Gf1⟩ := id Av
  have hin1 := inb_of Sz1 (j := i) ⟨i0, ilt⟩
  obtain ⟨T1, h1, X1, eh1, W1, st1⟩ := stJ X0 hx hZ e0 Ar1 (j := i) hin1 (g := (mkF m 15 #[.val (.ref ha), .val (.long (0 : Int64)), .second, .val (.int i), .val (.int z)] [(.long (0 : Int64)), (.int i), (.ref ha)])) rfl rfl (hb hby own_d_jdk_65_101_15)
  have Zs2 : n0 ≤ h1.size := Nat.le_trans Z0 (Nat.le_of_eq W1.size.symm)
  have N2 := Fr.snoc X1 N0 gha
  have Kp2 : Keep h0 h1 [ha] := (Keep.refl h0 [ha]).wr W1 (Or.inl (List.mem_of_getElem? (i := 0) rfl))
  have V1 : Arv Z h1 ha kc .long z (own_ws (own_upd hi i.toNatClampNeg 0) z) (.long (0 : Int64)) := (Arv.set Ar1 q1 Sz1 Ng1 Hs1 Gf1 rfl W1 i.toNatClampNeg rfl (by rw [own_ws_len]; exact own_ltN i0 ilt)).pad (own_ws_set hz0 (own_ltN i0 ilt) _)
  have pre3 : ∀ tgt, Steps p.tables e below (T1.setTop (mkF m 6 #[.val (.ref ha), .val (.long (0 : Int64)), .second, .val (.int (i + (1 : Int32))), .val (.int z)] [])) tgt → Steps p.tables e below (T0.setTop (mkF m 6 #[.val (.ref ha), .val (.long (0 : Int64)), .second, .val (.int i), .val (.int z)] [])) tgt := fun tgt kt_ => by
    refine pre0 _ ?_
    show Steps p.tables e below (T0.setTop (mkF m 6 #[.val (.ref ha), .val (.long (0 : Int64)), .second, .val (.int i), .val (.int z)] [])) _
    refine XS.iloadN X0.here hx rfl (hb hby own_d_jdk_65_101_6) rfl ?_
    show Steps p.tables e below (T0.setTop (mkF m 7 #[.val (.ref ha), .val (.long (0 : Int64)), .second, .val (.int i), .val (.int z)] [(.int i)])) _
    refine XS.iload X0.here hx rfl (hb hby own_d_jdk_65_101_7) rfl ?_
    show Steps p.tables e below (T0.setTop (mkF m 9 #[.val (.ref ha), .val (.long (0 : Int64)), .second, .val (.int i), .val (.int z)] [(.int z), (.int i)])) _
    refine XS.icmpNo X0.here hx rfl (hb hby own_d_jdk_65_101_9) rfl (tlt ilt).2.1 ?_
    show Steps p.tables e below (T0.setTop (mkF m 12 #[.val (.ref ha), .val (.long (0 : Int64)), .second, .val (.int i), .val (.int z)] [])) _
    refine XS.aloadN X0.here hx rfl (hb hby own_d_jdk_65_101_12) rfl rfl ?_
    show Steps p.tables e below (T0.setTop (mkF m 13 #[.val (.ref ha), .val (.long (0 : Int64)), .second, .val (.int i), .val (.int z)] [(.ref ha)])) _
    refine XS.iloadN X0.here hx rfl (hb hby own_d_jdk_65_101_13) rfl ?_
    show Steps p.tables e below (T0.setTop (mkF m 14 #[.val (.ref ha), .val (.long (0 : Int64)), .second, .val (.int i), .val (.int z)] [(.int i), (.ref ha)])) _
    refine XS.lloadN X0.here hx rfl (hb hby own_d_jdk_65_101_14) rfl ?_
    show Steps p.tables e below (T0.setTop (mkF m 15 #[.val (.ref ha), .val (.long (0 : Int64)), .second, .val (.int i), .val (.int z)] [(.long (0 : Int64)), (.int i), (.ref ha)])) _
    refine st1 _ ?_
    show Steps p.tables e below (T1.setTop (mkF m 16 #[.val (.ref ha), .val (.long (0 : Int64)), .second, .val (.int i), .val (.int z)] [])) _
    refine XS.iinc X1.here hx rfl (hb hby own_d_jdk_65_101_16) rfl (l' := #[.val (.ref ha), .val (.long (0 : Int64)), .second, .val (.int (i + (1 : Int32))), .val (.int z)]) rfl ?_
    show Steps p.tables e below (T1.setTop (mkF m 19 #[.val (.ref ha), .val (.long (0 : Int64)), .second, .val (.int (i + (1 : Int32))), .val (.int z)] [])) _
    refine XS.goto X1.here hx rfl (pc0 := 19) (pc' := 6) rfl (hb hby own_d_jdk_65_101_19) (by decide) (by decide) ?_
    show Steps p.tables e below (T1.setTop (mkF m 6 #[.val (.ref ha), .val (.long (0 : Int64)), .second, .val (.int (i + (1 : Int32))), .val (.int z)] [])) _
    exact kt_
  exact ⟨_, _, _, X1, eh1, N2, ⟨Kp2, V1⟩, pre3⟩
set_option maxRecDepth 65536 in
set_option maxHeartbeats 40000000 in
theorem lvFill {p : Program} {l : Launch} {e : Env} {R : Room} {s : State} {m : MethodId} {args : Array Value} {below : List Frame} {meth : Method} {c : Code} {T0 : State} {locs : List Loc} {cells slots : Nat} {Z : State} {a0 : Array Value} {h0 : Heap} {n0 : Nat} (ha : Addr) (z : Int32) (i : Int32)
    (X0 : Stand p l e R s m args below meth c T0 locs cells slots) (hx : p.tables.exec = Jvm.exec) (hZ : Z.Warmed39 s.vm) (hw : ∀ d ∈ tables_1, d.before a0 Z = true) (hby : c.code = jdk_65_method_101_code) (hml : c.maxLocals = 5) (hown : s.vm.findClass "java/util/Arrays" = some m.cls) (e0 : T0.heap = h0) (N0 : Fr n0 locs) (Z0 : n0 ≤ h0.size) (ige : ¬ i < z) :
    ∃ (T' : State) (h' : Heap) (L' : List Loc), Stand p l e R s m args below meth c T' L' cells slots ∧ T'.heap = h' ∧ Fr n0 L' ∧ (h' = h0) ∧ ∀ tgt, Steps p.tables e below (T'.setTop (mkF m 22 #[.val (.ref ha), .val (.long (0 : Int64)), .second, .val (.int i), .val (.int z)] [])) tgt → Steps p.tables e below (T0.setTop (mkF m 6 #[.val (.ref ha), .val (.long (0 : Int64)), .second, .val (.int i), .val (.int z)] [])) tgt := by
  have pre0 : ∀ tgt, Steps p.tables e below (T0.setTop (mkF m 6 #[.val (.ref ha), .val (.long (0 : Int64)), .second, .val (.int i), .val (.int z)] [])) tgt → Steps p.tables e below (T0.setTop (mkF m 6 #[.val (.ref ha), .val (.long (0 : Int64)), .second, .val (.int i), .val (.int z)] [])) tgt := fun tgt k => k
  have pre1 : ∀ tgt, Steps p.tables e below (T0.setTop (mkF m 22 #[.val (.ref ha), .val (.long (0 : Int64)), .second, .val (.int i), .val (.int z)] [])) tgt → Steps p.tables e below (T0.setTop (mkF m 6 #[.val (.ref ha), .val (.long (0 : Int64)), .second, .val (.int i), .val (.int z)] [])) tgt := fun tgt kt_ => by
    refine pre0 _ ?_
    show Steps p.tables e below (T0.setTop (mkF m 6 #[.val (.ref ha), .val (.long (0 : Int64)), .second, .val (.int i), .val (.int z)] [])) _
    refine XS.iloadN X0.here hx rfl (hb hby own_d_jdk_65_101_6) rfl ?_
    show Steps p.tables e below (T0.setTop (mkF m 7 #[.val (.ref ha), .val (.long (0 : Int64)), .second, .val (.int i), .val (.int z)] [(.int i)])) _
    refine XS.iload X0.here hx rfl (hb hby own_d_jdk_65_101_7) rfl ?_
    show Steps p.tables e below (T0.setTop (mkF m 9 #[.val (.ref ha), .val (.long (0 : Int64)), .second, .val (.int i), .val (.int z)] [(.int z), (.int i)])) _
    refine XS.icmpYes X0.here hx rfl (pc0 := 9) (pc' := 22) rfl (hb hby own_d_jdk_65_101_9) rfl (flt ige).2.1 (by decide) (by decide) ?_
    show Steps p.tables e below (T0.setTop (mkF m 22 #[.val (.ref ha), .val (.long (0 : Int64)), .second, .val (.int i), .val (.int z)] [])) _
    exact kt_
  exact ⟨_, _, _, X0, e0, N0, rfl, pre1⟩
set_option maxHeartbeats 4000000 in
theorem lpFill {p : Program} {l : Launch} {e : Env} {R : Room} {s : State} {m : MethodId} {args : Array Value} {below : List Frame} {meth : Method} {c : Code} {cells slots : Nat} {Z : State} {a0 : Array Value} {n0 : Nat} (ha : Addr) (kc : ClassId) (z : Int32)
    (hx : p.tables.exec = Jvm.exec) (hZ : Z.Warmed39 s.vm) (hw : ∀ d ∈ tables_1, d.before a0 Z = true) (hby : c.code = jdk_65_method_101_code) (hml : c.maxLocals = 5) (hown : s.vm.findClass "java/util/Arrays" = some m.cls) (gha : n0 ≤ ha ∨ z = 0) :
    ∀ (k : Nat) (T0 : State) (locs : List Loc) (h0 : Heap) (hi : Nat → Int64) (i : Int32), Stand p l e R s m args below meth c T0 locs cells slots → T0.heap = h0 → Fr n0 locs → n0 ≤ h0.size → Arv Z h0 ha kc .long z (own_ws hi z) (.long (0 : Int64)) → (∀ j, z.toNatClampNeg ≤ j → hi j = 0) → ¬ i < 0 → i.toInt + k = z.toInt → (∀ j, j < i.toNatClampNeg → hi j = 0) →
    ∃ (T' : State) (h' : Heap) (L' : List Loc) (i' : Int32), Stand p l e R s m args below meth c T' L' cells slots ∧ T'.heap = h' ∧ Fr n0 L' ∧ Keep h0 h' [ha] ∧ (z = 0 → h' = h0) ∧ Arv Z h' ha kc .long z (own_ws (fun _ => 0) z) (.long (0 : Int64)) ∧ ∀ t, Steps p.tables e below (T'.setTop (mkF m 22 #[.val (.ref ha), .val (.long (0 : Int64)), .second, .val (.int i'), .val (.int z)] [])) t → Steps p.tables e below (T0.setTop (mkF m 6 #[.val (.ref ha), .val (.long (0 : Int64)), .second, .val (.int i), .val (.int z)] [])) t := by
  intro k
  induction k with
  | zero =>
    intro T0 locs h0 hi i X0 e0 N0 Z0 Av hz0 i0 hik hlow
    have ige : ¬ i < z := by rw [Int32.lt_iff_toInt_lt]; omega
    have zi : z = i := Int32.toInt_inj.mp (by omega)
    obtain ⟨T', h', L', X', e', N', q, st⟩ := lvFill ha z i X0 hx hZ hw hby hml hown e0 N0 Z0 ige
    subst q
    refine ⟨T', h', L', i, X', e', N', Keep.refl _ _, fun _ => rfl, Av.pad (fun j => ?_), st⟩
    rw [own_ws_get (fun _ _ => rfl), own_ws_get hz0]
    by_cases q : j < i.toNatClampNeg
    · rw [hlow j q]
    · rw [hz0 j (by rw [zi]; omega)]
  | succ k ih =>
    intro T0 locs h0 hi i X0 e0 N0 Z0 Av hz0 i0 hik hlow
    have ilt : i < z := by rw [Int32.lt_iff_toInt_lt]; omega
    have zz : ¬ z = 0 := fun q => by rw [q] at ilt; exact i0 ilt
    have gh : n0 ≤ ha := gha.resolve_right zz
    obtain ⟨T1, h1, L1, X1, e1, N1, ⟨K1, V1⟩, st1⟩ := tnFill ha kc z hi i X0 hx hZ hw hby hml hown e0 N0 Z0 Av hz0 i0 ilt gh
    have ei : (i + 1).toInt = i.toInt + 1 := by
      have s := c_iadd i 1
      have k1 : (1 : Int32).toInt = 1 := by decide
      have r := rng32 i
      have r1 := rng32 (i + 1)
      have r2 := rng32 z
      omega
    have i0' := nat_of i0
    have i1 : ¬ i + 1 < 0 := by
      rw [Int32.lt_iff_toInt_lt]
      have k0 : (0 : Int32).toInt = 0 := by decide
      omega
    have i1' := nat_of i1
    obtain ⟨T2, h2, L2, i2, X2, e2, N2, K2, -, V2, st2⟩ := ih T1 L1 h1 (own_upd hi i.toNatClampNeg 0) (i + 1) X1 e1 N1 (Nat.le_trans Z0 K1.1) V1 (own_upd_z hz0 (own_ltN i0 ilt)) i1 (by omega) (fun j hj => by
      unfold own_upd
      by_cases q : j = i.toNatClampNeg
      · rw [if_pos q]
      · rw [if_neg q]; exact hlow j (by omega))
    exact ⟨T2, h2, L2, i2, X2, e2, N2, K1.trans K2 (fun x hx => Or.inl hx), fun q => absurd q zz, V2, fun t kt => st1 t (st2 t kt)⟩
theorem own_d_jdk_65_101_0 : decode jdk_65_method_101_code 0 = .ok (.iconst 0, 1) := by decide +kernel
theorem own_d_jdk_65_101_1 : decode jdk_65_method_101_code 1 = .ok (.istore_n 3, 1) := by decide +kernel
theorem own_d_jdk_65_101_2 : decode jdk_65_method_101_code 2 = .ok (.aload_n 0, 1) := by decide +kernel
theorem own_d_jdk_65_101_3 : decode jdk_65_method_101_code 3 = .ok (.arraylength, 1) := by decide +kernel
theorem own_d_jdk_65_101_4 : decode jdk_65_method_101_code 4 = .ok (.istore 4, 2) := by decide +kernel
theorem own_d_jdk_65_101_22 : decode jdk_65_method_101_code 22 = .ok (.return_, 1) := by decide +kernel
theorem ef_rmFill (m : MethodId) (ha : Addr) : entryFrame m #[(.ref ha), (.long (0 : Int64))] 5 = mkF m 0 #[.val (.ref ha), .val (.long (0 : Int64)), .second, .unset, .unset] [] := by first | (simp [entryFrame, mkF, argsToLocals, Value.category]; done) | rfl
def Q_rmFill (Z : State) (ha : Addr) (kc : ClassId) (z : Int32) (hi : Nat → Int64) (h0 : Heap) (n0 : Nat) (v : Option Value) (h : Heap) (L : List Loc) : Prop := v = none ∧ Fr n0 L ∧ Keep h0 h [ha] ∧ (z = 0 → h = h0) ∧ Arv Z h ha kc .long z (own_ws (fun _ => 0) z) (.long (0 : Int64))
set_option maxRecDepth 65536 in
set_option maxHeartbeats 40000000 in
theorem rmFill (l : Launch) (Z : State) (a0 : Array Value) (hw : ∀ d ∈ tables_1, d.before a0 Z = true) (ws : List Jvm.Cond) (ha : Addr) (kc : ClassId) (z : Int32) (hi : Nat → Int64) (h0 : Heap) (n0 : Nat) (Z0 : n0 ≤ h0.size) (Av : Arv Z h0 ha kc .long z (own_ws hi z) (.long (0 : Int64))) (hz0 : ∀ i, z.toNatClampNeg ≤ i → hi i = 0) (zn : ¬ z < 0) (gha : n0 ≤ ha ∨ z = 0) :
    MetFree l (⟨"java/util/Arrays", "fill", "([JJ)V"⟩ : MethodName) (head1 (Jvm.Cond.code (⟨"java/util/Arrays", "fill", "([JJ)V"⟩ : MethodName) jdk_65_method_101_code 5 none :: ws) ({ frames := 0, cells := 0, slots := 0, locals := 0 } : Room)) (fun a U => a = #[(.ref ha), (.long (0 : Int64))] ∧ Z.Warmed39 U.vm ∧ U.heap = h0) (fun _ _ _ _ _ => True) (fun _ U o U' => ∃ v L, o = .returned v ∧ Q_rmFill Z ha kc z hi h0 n0 (v) U'.heap (L) ∧ FrameEnd U o U' L 0 0) := by
  refine MetFree.of_bodySF (plainFor_of_name own_pn5) hisR ?_
  intro p e s m args below meth c s₁ Bd hml0 hP hK
  obtain ⟨rfl, hZ, hh⟩ := hP
  have hx := Bd.exec
  have hby := Bd.bytes
  have hml : c.maxLocals = 5 := hml0
  have hown : s.vm.findClass "java/util/Arrays" = some m.cls := findClass_of_methodNamed Bd.named
  have hnm := (name_of_methodNamed Bd.named Bd.method).1
  have X0 : Stand p l e ({ frames := 0, cells := 0, slots := 0, locals := 0 } : Room) s m #[(.ref ha), (.long (0 : Int64))] below meth c s₁ [] 0 0 := Stand.of_body Bd
  have e0 : s₁.heap = h0 := by rw [← hh, Bd.state]; rfl
  have N0 := Fr.nil n0
  have pre0 : ∀ tgt, Steps p.tables e below (s₁.setTop (mkF m 0 #[.val (.ref ha), .val (.long (0 : Int64)), .second, .unset, .unset] [])) tgt → Steps p.tables e below (s₁.setTop (entryFrame m #[(.ref ha), (.long (0 : Int64))] 5)) tgt := fun tgt k => castTop (ef_rmFill m ha) k
  obtain ⟨cl1, Ar1, q1, Sz1, Ng1, Hs1, Gf1⟩ := id Av
  have pre2 : ∀ tgt, Steps p.tables e below (s₁.setTop (mkF m 6 #[.val (.ref ha), .val (.long (0 : Int64)), .second, .val (.int (0 : Int32)), .val (.int z)] [])) tgt → Steps p.tables e below (s₁.setTop (entryFrame m #[(.ref ha), (.long (0 : Int64))] 5)) tgt := fun tgt kt_ => by
    refine pre0 _ ?_
    show Steps p.tables e below (s₁.setTop (mkF m 0 #[.val (.ref ha), .val (.long (0 : Int64)), .second, .unset, .unset] [])) _
    refine XS.iconst X0.here hx rfl (hb hby own_d_jdk_65_101_0) ?_
    show Steps p.tables e below (s₁.setTop (mkF m 1 #[.val (.ref ha), .val (.long (0 : Int64)), .second, .unset, .unset] [(.int (0 : Int32))])) _
    refine XS.istoreN X0.here hx rfl (hb hby own_d_jdk_65_101_1) rfl (l' := #[.val (.ref ha), .val (.long (0 : Int64)), .second, .val (.int (0 : Int32)), .unset]) rfl ?_
    show Steps p.tables e below (s₁.setTop (mkF m 2 #[.val (.ref ha), .val (.long (0 : Int64)), .second, .val (.int (0 : Int32)), .unset] [])) _
    refine XS.aloadN X0.here hx rfl (hb hby own_d_jdk_65_101_2) rfl rfl ?_
    show Steps p.tables e below (s₁.setTop (mkF m 3 #[.val (.ref ha), .val (.long (0 : Int64)), .second, .val (.int (0 : Int32)), .unset] [(.ref ha)])) _
    refine X0.arraylength hx (by rw [e0]; exact Ar1.1) (State.isArrayOf_alike hZ.alike Ar1.2.1) (g := (mkF m 3 #[.val (.ref ha), .val (.long (0 : Int64)), .second, .val (.int (0 : Int32)), .unset] [(.ref ha)])) rfl rfl (hb hby own_d_jdk_65_101_3) _ ?_
    rw [len_of Sz1 Ng1]
    show Steps p.tables e below (s₁.setTop (mkF m 4 #[.val (.ref ha), .val (.long (0 : Int64)), .second, .val (.int (0 : Int32)), .unset] [(.int z)])) _
    refine XS.istore X0.here hx rfl (hb hby own_d_jdk_65_101_4) rfl (l' := #[.val (.ref ha), .val (.long (0 : Int64)), .second, .val (.int (0 : Int32)), .val (.int z)]) rfl ?_
    show Steps p.tables e below (s₁.setTop (mkF m 6 #[.val (.ref ha), .val (.long (0 : Int64)), .second, .val (.int (0 : Int32)), .val (.int z)] [])) _
    exact kt_
  obtain ⟨Tl, hl, Ll, il, Xl, el, Nl, Kl, zl, Vl, stl⟩ := lpFill ha kc z hx hZ hw hby hml hown gha z.toNatClampNeg s₁ _ h0 hi (0 : Int32) X0 e0 N0 Z0 Av hz0 (by decide) (by rw [nat_of zn, show (0 : Int32).toInt = 0 from by decide]; omega) (fun j q => absurd q (Nat.not_lt_zero j))
  have prel : ∀ t, Steps p.tables e below (Tl.setTop (mkF m 22 #[.val (.ref ha), .val (.long (0 : Int64)), .second, .val (.int il), .val (.int z)] [])) t → Steps p.tables e below (s₁.setTop (entryFrame m #[(.ref ha), (.long (0 : Int64))] 5)) t := fun t kt => pre2 t (stl t kt)
  obtain ⟨fs, hr, hrun, hended, hW, hsame⟩ := Xl.leave (v := none) (fun _ => rfl)
  refine ⟨_, _, prel _ ?_, hrun, hended, _, _, rfl, ?_, ⟨_, rfl⟩, hW, hsame.mono (by decide) (by decide)⟩
  ·
    show Steps p.tables e below (Tl.setTop (mkF m 22 #[.val (.ref ha), .val (.long (0 : Int64)), .second, .val (.int il), .val (.int z)] [])) _
    exact Xl.returnOut hx Bd.returns (hb hby own_d_jdk_65_101_22) hr
  ·
    show Q_rmFill Z ha kc z hi h0 n0 (_) Tl.heap (_)
    rw [el]
    exact ⟨rfl, Nl, Kl, zl, Vl⟩
theorem own_fillOld {Z : State} {n0 : Nat} {h h' : Heap} {ha : Addr} {z : Int32} (O : Old Z n0 h) (hf : n0 ≤ ha ∨ z = 0) (K : Keep h h' [ha]) (q : z = 0 → h' = h) : Old Z n0 h' := by
  rcases hf with g | g
  · exact O.keep K (allS g all0)
  · rw [q g]; exact O
theorem own_mem0 (j : Int32) : own_mem 0 (fun _ => 0) j = false := by unfold own_mem; split <;> exact own_bt_zero j
theorem own_card0 (c : Nat) : ([] : List Int32).Nodup ∧ (∀ j, j ∈ ([] : List Int32) ↔ (own_in j ∧ (fun _ => false : Int32 → Bool) j = true)) ∧ (0 : Int32).toInt = (([] : List Int32).length : Int) ∧ ([] : List Int32).length ≤ c := ⟨List.nodup_nil, fun j => by simp, by decide, Nat.zero_le _⟩
theorem own_d_prog_31_14_0 : decode prog_31_method_14_code 0 = .ok (.aload_n 0, 1) := by decide +kernel
theorem own_d_prog_31_14_1 : decode prog_31_method_14_code 1 = .ok (.lconst 0, 1) := by decide +kernel
theorem own_d_prog_31_14_2 : decode prog_31_method_14_code 2 = .ok (.putfield 18, 3) := by decide +kernel
theorem own_d_prog_31_14_5 : decode prog_31_method_14_code 5 = .ok (.aload_n 0, 1) := by decide +kernel
theorem own_d_prog_31_14_6 : decode prog_31_method_14_code 6 = .ok (.getfield 15, 3) := by decide +kernel
theorem own_d_prog_31_14_9 : decode prog_31_method_14_code 9 = .ok (.lconst 0, 1) := by decide +kernel
theorem own_d_prog_31_14_10 : decode prog_31_method_14_code 10 = .ok (.invokestatic 86, 3) := by decide +kernel
theorem own_pd7 : parseMethodDescriptor "([JJ)V" = some ⟨[(.array .long), .long], none⟩ := by decide +kernel
theorem own_d_prog_31_14_13 : decode prog_31_method_14_code 13 = .ok (.aload_n 0, 1) := by decide +kernel
theorem own_d_prog_31_14_14 : decode prog_31_method_14_code 14 = .ok (.iconst 0, 1) := by decide +kernel
theorem own_d_prog_31_14_15 : decode prog_31_method_14_code 15 = .ok (.putfield 35, 3) := by decide +kernel
theorem own_d_prog_31_14_18 : decode prog_31_method_14_code 18 = .ok (.return_, 1) := by decide +kernel
theorem ef_rmClear (m : MethodId) (a1 : Addr) : entryFrame m #[(.ref a1)] 1 = mkF m 0 #[.val (.ref a1)] [] := by first | (simp [entryFrame, mkF, argsToLocals, Value.category]; done) | rfl
def Q_rmClear (Z : State) (a1 : Addr) (c0 : Nat) (M : Int32 → Bool) (h0 : Heap) (n0 : Nat) (v : Option Value) (h : Heap) (L : List Loc) : Prop := v = none ∧ Fr n0 L ∧ Old Z n0 h ∧ Tg Z h n0 a1 c0 (fun _ => false)
set_option maxRecDepth 65536 in
set_option maxHeartbeats 40000000 in
theorem rmClear (l : Launch) (Z : State) (a0 : Array Value) (hw : ∀ d ∈ tables_1, d.before a0 Z = true) (ws : List Jvm.Cond) (a1 : Addr) (c0 : Nat) (M : Int32 → Bool) (h0 : Heap) (n0 : Nat) (Z0 : n0 ≤ h0.size) (TG1 : Tg Z h0 n0 a1 c0 M) (g1 : n0 ≤ a1) (O0 : Old Z n0 h0) :
    MetFree l (⟨"com/example/dramatis/dramatis/analysis/RoleGraph$Targets", "clear", "()V"⟩ : MethodName) (head1 (Jvm.Cond.code (⟨"com/example/dramatis/dramatis/analysis/RoleGraph$Targets", "clear", "()V"⟩ : MethodName) prog_31_method_14_code 1 none :: ws) ({ frames := 1, cells := 0, slots := 0, locals := 16 } : Room)) (fun a U => a = #[(.ref a1)] ∧ Z.Warmed39 U.vm ∧ U.heap = h0) (fun _ _ _ _ _ => True) (fun _ U o U' => ∃ v L, o = .returned v ∧ Q_rmClear Z a1 c0 M h0 n0 (v) U'.heap (L) ∧ FrameEnd U o U' L 0 0) := by
  refine MetFree.of_bodySF (plainFor_of_name own_pn4) hisR ?_
  intro p e s m args below meth c s₁ Bd hml0 hP hK
  obtain ⟨rfl, hZ, hh⟩ := hP
  have hx := Bd.exec
  have hby := Bd.bytes
  have hml : c.maxLocals = 1 := hml0
  have hown : s.vm.findClass "com/example/dramatis/dramatis/analysis/RoleGraph$Targets" = some m.cls := findClass_of_methodNamed Bd.named
  have hnm := (name_of_methodNamed Bd.named Bd.method).1
  have X0 : Stand p l e ({ frames := 1, cells := 0, slots := 0, locals := 16 } : Room) s m #[(.ref a1)] below meth c s₁ [] 0 0 := Stand.of_body Bd
  have e0 : s₁.heap = h0 := by rw [← hh, Bd.state]; rfl
  have N0 := Fr.nil n0
  have pre0 : ∀ tgt, Steps p.tables e below (s₁.setTop (mkF m 0 #[.val (.ref a1)] [])) tgt → Steps p.tables e below (s₁.setTop (entryFrame m #[(.ref a1)] 1)) tgt := fun tgt k => castTop (ef_rmClear m a1) k
  obtain ⟨lo, ha, kc, z, hi, n, ll, E1, Fl, Fh, Fs, Av, hfr, hzb, hz0, hM, hnd, hmm, hn, hlc⟩ := TG1
  have ne1 : a1 ≠ ha := by obtain ⟨cc, A, -⟩ := Av; exact ne_arr E1 (hw _ (List.mem_of_getElem? (i := 1) rfl)) A
  have zn : ¬ z < 0 := by obtain ⟨cc, -, -, -, q, -⟩ := Av; exact q
  obtain ⟨T1, h1, X1, eh1, W1, st1⟩ := putF X0 hx hZ hown (host := "") (Or.inl (hw _ (List.mem_of_getElem? (i := 61) rfl))) Via.refl e0 Fl E1 (Or.inl (hw _ (List.mem_of_getElem? (i := 62) rfl))) (hw _ (List.mem_of_getElem? (i := 1) rfl)) (ty := .long) (by decide) rfl rfl (g := (mkF m 2 #[.val (.ref a1)] [(.long (0 : Int64)), (.ref a1)])) rfl rfl (hb hby own_d_prog_31_14_2)
  have Fw1 := Fl.same W1
  have Zs2 : n0 ≤ h1.size := Nat.le_trans Z0 (Nat.le_of_eq W1.size.symm)
  have N2 := Fr.snoc X1 N0 g1
  have O2 := O0.wr W1 g1
  have c3 := (Fh.other W1 (Or.inr (slot_ne (Or.inl (hw _ (List.mem_of_getElem? (i := 23) rfl))) (Or.inl (hw _ (List.mem_of_getElem? (i := 62) rfl))) (by decide) (t := (.array .long)) (t' := .long) (by decide) (by decide))))
  obtain ⟨T4, X4, eh4, st4⟩ := getF X1 hx hZ hown (host := "") (Or.inl (hw _ (List.mem_of_getElem? (i := 22) rfl))) Via.refl eh1 c3 (g := (mkF m 6 #[.val (.ref a1)] [(.ref a1)])) rfl rfl (hb hby own_d_prog_31_14_6)
  have c5 := (Av.other W1 (Ne.symm ne1))
  obtain ⟨_, _, ⟨T6, L6, k6, n6⟩, -, X6, ⟨Lc6, hQ6, l6, y6, z6⟩, st6⟩ := Jvm.LawKit.callS X4 hx (y := (⟨"java/util/Arrays", "fill", "([JJ)V"⟩ : MethodName)) hown (mvT hZ (hw _ (List.mem_of_getElem? (i := 107) rfl))) (mvT hZ (hw _ (List.mem_of_getElem? (i := 108) rfl))) (mvT hZ (hw _ (List.mem_of_getElem? (i := 86) rfl))) (mvT hZ (hw _ (List.mem_of_getElem? (i := 109) rfl))) (by decide) (backOf (W := 0) (rmFill l Z a0 hw [] ha kc z hi h1 n0 Zs2 c5 hz0 zn hfr) hZ (hw _ (List.mem_of_getElem? (i := 109) rfl)) (hw _ (List.mem_of_getElem? (i := 86) rfl)) (by decide) (by decide)) (g := (mkF m 10 #[.val (.ref a1)] [(.long (0 : Int64)), (.ref ha)])) rfl (by rw [hml]; rfl) (argsL := [(.ref ha), (.long (0 : Int64))]) (rest := []) (lenOf own_pd7 rfl) rfl (by show 2 * 0 + _ ≤ _; exact Nat.le_of_eq rfl) (hb hby own_d_prog_31_14_10) (fun _ _ => ⟨rfl, eh4, (by decide : 0 + 0 ≤ _), (by decide : 0 + 0 ≤ _)⟩)
  dsimp only [Pt.U, Pt.locs, Pt.cells, Pt.slots] at X6 l6 y6 z6 st6 hQ6
  subst l6 y6 z6
  obtain ⟨rfl, N6q, K6, zf6, V6⟩ := hQ6
  have N6 := Fr.app N2 N6q
  have O6 : Old Z n0 T6.heap := own_fillOld O2 hfr K6 zf6
  have Zs6 : n0 ≤ T6.heap.size := own_osz O6
  have c7 := ((Fs.other W1 (Or.inr (slot_ne (Or.inl (hw _ (List.mem_of_getElem? (i := 30) rfl))) (Or.inl (hw _ (List.mem_of_getElem? (i := 62) rfl))) (by decide) (t := .int) (t' := .long) (by decide) (by decide)))).keep K6 (ninS ne1 nin0))
  have c8 := ((E1.wr W1).keep K6)
  obtain ⟨T9, h9, X9, eh9, W9, st9⟩ := putF X6 hx hZ hown (host := "") (Or.inl (hw _ (List.mem_of_getElem? (i := 29) rfl))) Via.refl rfl c7 c8 (Or.inl (hw _ (List.mem_of_getElem? (i := 30) rfl))) (hw _ (List.mem_of_getElem? (i := 1) rfl)) (ty := .int) (by decide) rfl rfl (g := (mkF m 15 #[.val (.ref a1)] [(.int (0 : Int32)), (.ref a1)])) rfl rfl (hb hby own_d_prog_31_14_15)
  have Fw9 := c7.same W9
  have Zs10 : n0 ≤ h9.size := Nat.le_trans Zs6 (Nat.le_of_eq W9.size.symm)
  have N10 := Fr.snoc X9 N6 g1
  have O10 := O6.wr W9 g1
  obtain ⟨fs, hr, hrun, hended, hW, hsame⟩ := X9.leave (v := none) (fun _ => rfl)
  refine ⟨_, _, pre0 _ ?_, hrun, hended, _, _, rfl, ?_, ⟨_, rfl⟩, hW, hsame.mono (by decide) (by decide)⟩
  ·
    show Steps p.tables e below (s₁.setTop (mkF m 0 #[.val (.ref a1)] [])) _
    refine XS.aloadN X0.here hx rfl (hb hby own_d_prog_31_14_0) rfl rfl ?_
    show Steps p.tables e below (s₁.setTop (mkF m 1 #[.val (.ref a1)] [(.ref a1)])) _
    refine XS.lconst X0.here hx rfl (hb hby own_d_prog_31_14_1) ?_
    show Steps p.tables e below (s₁.setTop (mkF m 2 #[.val (.ref a1)] [(.long (0 : Int64)), (.ref a1)])) _
    refine st1 _ ?_
    show Steps p.tables e below (T1.setTop (mkF m 5 #[.val (.ref a1)] [])) _
    refine XS.aloadN X1.here hx rfl (hb hby own_d_prog_31_14_5) rfl rfl ?_
    show Steps p.tables e below (T1.setTop (mkF m 6 #[.val (.ref a1)] [(.ref a1)])) _
    refine st4 _ ?_
    show Steps p.tables e below (T4.setTop (mkF m 9 #[.val (.ref a1)] [(.ref ha)])) _
    refine XS.lconst X4.here hx rfl (hb hby own_d_prog_31_14_9) ?_
    show Steps p.tables e below (T4.setTop (mkF m 10 #[.val (.ref a1)] [(.long (0 : Int64)), (.ref ha)])) _
    refine st6 _ ?_
    show Steps p.tables e below (T6.setTop (mkF m 13 #[.val (.ref a1)] [])) _
    refine XS.aloadN X6.here hx rfl (hb hby own_d_prog_31_14_13) rfl rfl ?_
    show Steps p.tables e below (T6.setTop (mkF m 14 #[.val (.ref a1)] [(.ref a1)])) _
    refine XS.iconst X6.here hx rfl (hb hby own_d_prog_31_14_14) ?_
    show Steps p.tables e below (T6.setTop (mkF m 15 #[.val (.ref a1)] [(.int (0 : Int32)), (.ref a1)])) _
    refine st9 _ ?_
    show Steps p.tables e below (T9.setTop (mkF m 18 #[.val (.ref a1)] [])) _
    exact X9.returnOut hx Bd.returns (hb hby own_d_prog_31_14_18) hr
  ·
    show Q_rmClear Z a1 c0 M h0 n0 (_) T9.heap (_)
    rw [eh9]
    have c11 := ((c3.keep K6 (ninS ne1 nin0)).other W9 (Or.inr (slot_ne (Or.inl (hw _ (List.mem_of_getElem? (i := 23) rfl))) (Or.inl (hw _ (List.mem_of_getElem? (i := 30) rfl))) (by decide) (t := (.array .long)) (t' := .int) (by decide) (by decide))))
    have c12 := (V6.other W9 (Ne.symm ne1))
    have c13 := ((Fw1.keep K6 (ninS ne1 nin0)).other W9 (Or.inr (slot_ne (Or.inl (hw _ (List.mem_of_getElem? (i := 62) rfl))) (Or.inl (hw _ (List.mem_of_getElem? (i := 30) rfl))) (by decide) (t := .long) (t' := .int) (by decide) (by decide))))
    have Cd := own_card0 c0
    have c14 := (c8.wr W9)
    exact ⟨rfl, N10, O10, (0 : Int64), ha, _, z, (fun _ => 0), (0 : Int32), [], c14, c13, c11, Fw9, c12, hfr, hzb, (fun _ _ => rfl), (fun j _ => own_mem0 j), Cd.1, Cd.2.1, Cd.2.2.1, Cd.2.2.2⟩
theorem own_emp1 {r n : Int32} {M : Int32 → Bool} {ll : List Int32} (hr : own_ans r M) (hmm : ∀ j, j ∈ ll ↔ (own_in j ∧ M j = true)) (hn : n.toInt = (ll.length : Int)) (h : n = (0 : Int32)) : some (Value.int (1 : Int32)) = some (.int r) := by
  rcases hr with ⟨q, -⟩ | ⟨-, j, hj, hM⟩
  · rw [q]
  · have := List.length_pos_of_mem ((hmm j).mpr ⟨hj, hM⟩)
    rw [h, show (0 : Int32).toInt = 0 from by decide] at hn
    omega
theorem own_emp0 {r n : Int32} {M : Int32 → Bool} {ll : List Int32} (hr : own_ans r M) (hmm : ∀ j, j ∈ ll ↔ (own_in j ∧ M j = true)) (hn : n.toInt = (ll.length : Int)) (h : ¬ n = (0 : Int32)) : some (Value.int (0 : Int32)) = some (.int r) := by
  rcases hr with ⟨-, q⟩ | ⟨q, -⟩
  · cases ll with
    | nil => exact absurd (Int32.toInt_inj.mp (hn.trans (by decide))) h
    | cons x t => obtain ⟨hx, hx2⟩ := (hmm x).mp (List.mem_cons_self ..); rw [q x hx] at hx2; cases hx2
  · rw [q]
theorem own_d_prog_31_5_0 : decode prog_31_method_5_code 0 = .ok (.aload_n 0, 1) := by decide +kernel
theorem own_d_prog_31_5_1 : decode prog_31_method_5_code 1 = .ok (.getfield 35, 3) := by decide +kernel
theorem own_d_prog_31_5_4 : decode prog_31_method_5_code 4 = .ok (.ifCond .ne 7, 3) := by decide +kernel
theorem own_d_prog_31_5_7 : decode prog_31_method_5_code 7 = .ok (.iconst 1, 1) := by decide +kernel
theorem own_d_prog_31_5_8 : decode prog_31_method_5_code 8 = .ok (.goto 4, 3) := by decide +kernel
theorem own_d_prog_31_5_12 : decode prog_31_method_5_code 12 = .ok (.ireturn, 1) := by decide +kernel
theorem own_d_prog_31_5_11 : decode prog_31_method_5_code 11 = .ok (.iconst 0, 1) := by decide +kernel
theorem ef_rmEmp (m : MethodId) (a1 : Addr) : entryFrame m #[(.ref a1)] 1 = mkF m 0 #[.val (.ref a1)] [] := by first | (simp [entryFrame, mkF, argsToLocals, Value.category]; done) | rfl
def Q_rmEmp (Z : State) (a1 : Addr) (c0 : Nat) (M : Int32 → Bool) (r : Int32) (h0 : Heap) (n0 : Nat) (v : Option Value) (h : Heap) (L : List Loc) : Prop := v = some (.int r) ∧ Fr n0 L ∧ h = h0
set_option maxRecDepth 65536 in
set_option maxHeartbeats 40000000 in
theorem rmEmp (l : Launch) (Z : State) (a0 : Array Value) (hw : ∀ d ∈ tables_1, d.before a0 Z = true) (ws : List Jvm.Cond) (a1 : Addr) (c0 : Nat) (M : Int32 → Bool) (r : Int32) (h0 : Heap) (n0 : Nat) (Z0 : n0 ≤ h0.size) (TG1 : Tg Z h0 n0 a1 c0 M) (hr1 : own_ans r M) :
    MetFree l (⟨"com/example/dramatis/dramatis/analysis/RoleGraph$Targets", "isEmpty", "()Z"⟩ : MethodName) (head1 (Jvm.Cond.code (⟨"com/example/dramatis/dramatis/analysis/RoleGraph$Targets", "isEmpty", "()Z"⟩ : MethodName) prog_31_method_5_code 1 (some .boolean) :: ws) ({ frames := 0, cells := 0, slots := 0, locals := 0 } : Room)) (fun a U => a = #[(.ref a1)] ∧ Z.Warmed39 U.vm ∧ U.heap = h0) (fun _ _ _ _ _ => True) (fun _ U o U' => ∃ v L, o = .returned v ∧ Q_rmEmp Z a1 c0 M r h0 n0 (v) U'.heap (L) ∧ FrameEnd U o U' L 0 0) := by
  refine MetFree.of_bodySF (plainFor_of_name own_pn4) hisR ?_
  intro p e s m args below meth c s₁ Bd hml0 hP hK
  obtain ⟨rfl, hZ, hh⟩ := hP
  have hx := Bd.exec
  have hby := Bd.bytes
  have hml : c.maxLocals = 1 := hml0
  have hown : s.vm.findClass "com/example/dramatis/dramatis/analysis/RoleGraph$Targets" = some m.cls := findClass_of_methodNamed Bd.named
  have hnm := (name_of_methodNamed Bd.named Bd.method).1
  have X0 : Stand p l e ({ frames := 0, cells := 0, slots := 0, locals := 0 } : Room) s m #[(.ref a1)] below meth c s₁ [] 0 0 := Stand.of_body Bd
  have e0 : s₁.heap = h0 := by rw [← hh, Bd.state]; rfl
  have N0 := Fr.nil n0
  have pre0 : ∀ tgt, Steps p.tables e below (s₁.setTop (mkF m 0 #[.val (.ref a1)] [])) tgt → Steps p.tables e below (s₁.setTop (entryFrame m #[(.ref a1)] 1)) tgt := fun tgt k => castTop (ef_rmEmp m a1) k
  obtain ⟨lo, ha, kc, z, hi, n, ll, E1, Fl, Fh, Fs, Av, hfr, hzb, hz0, hM, hnd, hmm, hn, hlc⟩ := TG1
  have ne1 : a1 ≠ ha := by obtain ⟨cc, A, -⟩ := Av; exact ne_arr E1 (hw _ (List.mem_of_getElem? (i := 1) rfl)) A
  have zn : ¬ z < 0 := by obtain ⟨cc, -, -, -, q, -⟩ := Av; exact q
  obtain ⟨T1, X1, eh1, st1⟩ := getF X0 hx hZ hown (host := "") (Or.inl (hw _ (List.mem_of_getElem? (i := 29) rfl))) Via.refl e0 Fs (g := (mkF m 1 #[.val (.ref a1)] [(.ref a1)])) rfl rfl (hb hby own_d_prog_31_5_1)
  have pre2 : ∀ tgt, Steps p.tables e below (T1.setTop (mkF m 4 #[.val (.ref a1)] [(.int n)])) tgt → Steps p.tables e below (s₁.setTop (entryFrame m #[(.ref a1)] 1)) tgt := fun tgt kt_ => by
    refine pre0 _ ?_
    show Steps p.tables e below (s₁.setTop (mkF m 0 #[.val (.ref a1)] [])) _
    refine XS.aloadN X0.here hx rfl (hb hby own_d_prog_31_5_0) rfl rfl ?_
    show Steps p.tables e below (s₁.setTop (mkF m 1 #[.val (.ref a1)] [(.ref a1)])) _
    refine st1 _ ?_
    show Steps p.tables e below (T1.setTop (mkF m 4 #[.val (.ref a1)] [(.int n)])) _
    exact kt_
  rcases Decidable.em (n = (0 : Int32)) with hc4_3 | hc4_3
  ·
    obtain ⟨fs, hr, hrun, hended, hW, hsame⟩ := X1.leave (v := some (.int (1 : Int32))) (fun h => by rw [Bd.returns] at h; cases h)
    refine ⟨_, _, pre2 _ ?_, hrun, hended, _, _, rfl, ?_, ⟨_, rfl⟩, hW, hsame.mono (by decide) (by decide)⟩
    ·
      show Steps p.tables e below (T1.setTop (mkF m 4 #[.val (.ref a1)] [(.int n)])) _
      refine XS.ifNo X1.here hx rfl (hb hby own_d_prog_31_5_4) rfl ((if0 _ _).trans (teq hc4_3).2) ?_
      show Steps p.tables e below (T1.setTop (mkF m 7 #[.val (.ref a1)] [])) _
      refine XS.iconst X1.here hx rfl (hb hby own_d_prog_31_5_7) ?_
      show Steps p.tables e below (T1.setTop (mkF m 8 #[.val (.ref a1)] [(.int (1 : Int32))])) _
      refine XS.goto X1.here hx rfl (pc0 := 8) (pc' := 12) rfl (hb hby own_d_prog_31_5_8) (by decide) (by decide) ?_
      show Steps p.tables e below (T1.setTop (mkF m 12 #[.val (.ref a1)] [(.int (1 : Int32))])) _
      exact retN X1 hx (t := .boolean) Bd.returns (by simp) (hb hby own_d_prog_31_5_12) hr
    ·
      show Q_rmEmp Z a1 c0 M r h0 n0 (_) T1.heap (_)
      rw [eh1]
      exact ⟨own_emp1 hr1 hmm hn hc4_3, N0, rfl⟩
  ·
    obtain ⟨fs, hr, hrun, hended, hW, hsame⟩ := X1.leave (v := some (.int (0 : Int32))) (fun h => by rw [Bd.returns] at h; cases h)
    refine ⟨_, _, pre2 _ ?_, hrun, hended, _, _, rfl, ?_, ⟨_, rfl⟩, hW, hsame.mono (by decide) (by decide)⟩
    ·
      show Steps p.tables e below (T1.setTop (mkF m 4 #[.val (.ref a1)] [(.int n)])) _
      refine XS.ifYes X1.here hx rfl (pc0 := 4) (pc' := 11) rfl (hb hby own_d_prog_31_5_4) rfl ((if0 _ _).trans (feq hc4_3).2) (by decide) (by decide) ?_
      show Steps p.tables e below (T1.setTop (mkF m 11 #[.val (.ref a1)] [])) _
      refine XS.iconst X1.here hx rfl (hb hby own_d_prog_31_5_11) ?_
      show Steps p.tables e below (T1.setTop (mkF m 12 #[.val (.ref a1)] [(.int (0 : Int32))])) _
      exact retN X1 hx (t := .boolean) Bd.returns (by simp) (hb hby own_d_prog_31_5_12) hr
    ·
      show Q_rmEmp Z a1 c0 M r h0 n0 (_) T1.heap (_)
      rw [eh1]
      exact ⟨own_emp0 hr1 hmm hn hc4_3, N0, rfl⟩
theorem own_tgExa {Z : State} {h : Heap} {n0 : Nat} {a : Addr} {c : Nat} {M : Int32 → Bool} (T : Tg Z h n0 a c M) : Exa Z h a "com/example/dramatis/dramatis/analysis/RoleGraph$Targets" := by obtain ⟨_, _, _, _, _, _, _, h1, -⟩ := T; exact h1
theorem own_adF {M : Int32 → Bool} {k : Int32} (j : Int32) : M j = own_ad false k M j := by unfold own_ad; simp
theorem own_pd8 : parseMethodDescriptor "(I)Ljava/lang/Integer;" = some ⟨[.int], some (.object "java/lang/Integer")⟩ := by decide +kernel
theorem own_pd9 : parseMethodDescriptor "(Ljava/lang/Integer;)Z" = some ⟨[(.object "java/lang/Integer")], some .boolean⟩ := by decide +kernel
theorem own_pd10 : parseMethodDescriptor "()Z" = some ⟨[], some .boolean⟩ := by decide +kernel
theorem own_pn6 : plainName "com/example/dramatis/dramatis/analysis/TargetsIsEmptyPinLaw" = true := by first | (simp [plainName, overriddenIn]; done) | decide +kernel
theorem ef_rm0 (m : MethodId) (p1 : Int32) (p2 : Int32) (p3 : Int32) (p4 : Int32) : entryFrame m #[(.int p1), (.int p2), (.int p3), (.int p4)] maxLocals = mkF m 0 #[.val (.int p1), .val (.int p2), .val (.int p3), .val (.int p4), .unset, .unset, .unset, .unset, .unset, .unset, .unset, .unset, .unset, .unset] [] := by first | (simp [entryFrame, mkF, argsToLocals, Value.category, maxLocals]; done) | rfl
def Q_rm0 (Z : State) (p1 : Int32) (p2 : Int32) (p3 : Int32) (p4 : Int32) (ca : Addr) (cc : Cell) (nw : Addr) (kn : ClassId) (h0 : Heap) (n0 : Nat) (v : Option Value) (h : Heap) (L : List Loc) : Prop := v = some (.int 1) ∧ Fr n0 L
set_option maxRecDepth 65536 in
set_option maxHeartbeats 40000000 in
theorem rm0 (l : Launch) (Z : State) (a0 : Array Value) (hw : ∀ d ∈ tables_1, d.before a0 Z = true) (ws : List Jvm.Cond) (p1 : Int32) (p2 : Int32) (p3 : Int32) (p4 : Int32) (ca : Addr) (cc : Cell) (nw : Addr) (kn : ClassId) (h0 : Heap) (n0 : Nat) (Z0 : n0 ≤ h0.size) (O0 : Old Z n0 h0) (SH : Sta Z Z.heap "java/lang/Integer$IntegerCache" "high" "I" (.int (127 : Int32))) (SC : Sta Z Z.heap "java/lang/Integer$IntegerCache" "cache" "[Ljava/lang/Integer;" (.ref ca)) (BX : Bxs Z ca cc "java/lang/Integer" "I" 256 (fun j => .int (j - 128))) (SN : Sta Z Z.heap "com/example/dramatis/dramatis/analysis/RoleGraph$Targets" "NO_WORDS" "[J" (.ref nw)) (NW : Arv Z Z.heap nw kn .long 0 [] (.long (0 : Int64))) :
    MetFree l x (head1 (Jvm.Cond.code x code maxLocals ret :: ws) room_1) (fun a U => a = #[(.int p1), (.int p2), (.int p3), (.int p4)] ∧ Z.Warmed39 U.vm ∧ U.heap = h0) (fun _ _ _ _ _ => True) (fun _ U o U' => ∃ v L, o = .returned v ∧ Q_rm0 Z p1 p2 p3 p4 ca cc nw kn h0 n0 (v) U'.heap (L) ∧ FrameEnd U o U' L 8 52) := by
  refine MetFree.of_bodySF (plainFor_of_name own_pn6) hisR ?_
  intro p e s m args below meth c s₁ Bd hml0 hP hK
  obtain ⟨rfl, hZ, hh⟩ := hP
  have hx := Bd.exec
  have hby := Bd.bytes
  have hml : c.maxLocals = 14 := hml0
  have hown : s.vm.findClass "com/example/dramatis/dramatis/analysis/TargetsIsEmptyPinLaw" = some m.cls := findClass_of_methodNamed Bd.named
  have hnm := (name_of_methodNamed Bd.named Bd.method).1
  have X0 : Stand p l e room_1 s m #[(.int p1), (.int p2), (.int p3), (.int p4)] below meth c s₁ [] 0 0 := Stand.of_body Bd
  have e0 : s₁.heap = h0 := by rw [← hh, Bd.state]; rfl
  have N0 := Fr.nil n0
  have pre0 : ∀ tgt, Steps p.tables e below (s₁.setTop (mkF m 0 #[.val (.int p1), .val (.int p2), .val (.int p3), .val (.int p4), .unset, .unset, .unset, .unset, .unset, .unset, .unset, .unset, .unset, .unset] [])) tgt → Steps p.tables e below (s₁.setTop (entryFrame m #[(.int p1), (.int p2), (.int p3), (.int p4)] maxLocals)) tgt := fun tgt k => castTop (ef_rm0 m p1 p2 p3 p4) k
  have pre1 : ∀ tgt, Steps p.tables e below (s₁.setTop (mkF m 5 #[.val (.int p1), .val (.int p2), .val (.int p3), .val (.int p4), .val (.int (p1 &&& (3 : Int32))), .unset, .unset, .unset, .unset, .unset, .unset, .unset, .unset, .unset] [])) tgt → Steps p.tables e below (s₁.setTop (entryFrame m #[(.int p1), (.int p2), (.int p3), (.int p4)] maxLocals)) tgt := fun tgt kt_ => by
    refine pre0 _ ?_
    show Steps p.tables e below (s₁.setTop (mkF m 0 #[.val (.int p1), .val (.int p2), .val (.int p3), .val (.int p4), .unset, .unset, .unset, .unset, .unset, .unset, .unset, .unset, .unset, .unset] [])) _
    refine XS.iloadN X0.here hx rfl (hb hby at_0) rfl ?_
    show Steps p.tables e below (s₁.setTop (mkF m 1 #[.val (.int p1), .val (.int p2), .val (.int p3), .val (.int p4), .unset, .unset, .unset, .unset, .unset, .unset, .unset, .unset, .unset, .unset] [(.int p1)])) _
    refine XS.iconst X0.here hx rfl (hb hby at_1) ?_
    show Steps p.tables e below (s₁.setTop (mkF m 2 #[.val (.int p1), .val (.int p2), .val (.int p3), .val (.int p4), .unset, .unset, .unset, .unset, .unset, .unset, .unset, .unset, .unset, .unset] [(.int (3 : Int32)), (.int p1)])) _
    refine XS.iand X0.here hx rfl (hb hby at_2) rfl ?_
    show Steps p.tables e below (s₁.setTop (mkF m 3 #[.val (.int p1), .val (.int p2), .val (.int p3), .val (.int p4), .unset, .unset, .unset, .unset, .unset, .unset, .unset, .unset, .unset, .unset] [(.int (p1 &&& (3 : Int32)))])) _
    refine XS.istore X0.here hx rfl (hb hby at_3) rfl (l' := #[.val (.int p1), .val (.int p2), .val (.int p3), .val (.int p4), .val (.int (p1 &&& (3 : Int32))), .unset, .unset, .unset, .unset, .unset, .unset, .unset, .unset, .unset]) rfl ?_
    show Steps p.tables e below (s₁.setTop (mkF m 5 #[.val (.int p1), .val (.int p2), .val (.int p3), .val (.int p4), .val (.int (p1 &&& (3 : Int32))), .unset, .unset, .unset, .unset, .unset, .unset, .unset, .unset, .unset] [])) _
    exact kt_
  obtain ⟨kk, hkk⟩ : ∃ z, z = (p1 &&& (3 : Int32)) := ⟨_, rfl⟩
  rw [← hkk] at pre1
  have pre2 : ∀ tgt, Steps p.tables e below (s₁.setTop (mkF m 12 #[.val (.int p1), .val (.int p2), .val (.int p3), .val (.int p4), .val (.int kk), .val (.int (((p1.toUInt32 >>> ((2 : Int32) &&& 31).toUInt32).toInt32) &&& (3 : Int32))), .unset, .unset, .unset, .unset, .unset, .unset, .unset, .unset] [])) tgt → Steps p.tables e below (s₁.setTop (entryFrame m #[(.int p1), (.int p2), (.int p3), (.int p4)] maxLocals)) tgt := fun tgt kt_ => by
    refine pre1 _ ?_
    show Steps p.tables e below (s₁.setTop (mkF m 5 #[.val (.int p1), .val (.int p2), .val (.int p3), .val (.int p4), .val (.int kk), .unset, .unset, .unset, .unset, .unset, .unset, .unset, .unset, .unset] [])) _
    refine XS.iloadN X0.here hx rfl (hb hby at_5) rfl ?_
    show Steps p.tables e below (s₁.setTop (mkF m 6 #[.val (.int p1), .val (.int p2), .val (.int p3), .val (.int p4), .val (.int kk), .unset, .unset, .unset, .unset, .unset, .unset, .unset, .unset, .unset] [(.int p1)])) _
    refine XS.iconst X0.here hx rfl (hb hby at_6) ?_
    show Steps p.tables e below (s₁.setTop (mkF m 7 #[.val (.int p1), .val (.int p2), .val (.int p3), .val (.int p4), .val (.int kk), .unset, .unset, .unset, .unset, .unset, .unset, .unset, .unset, .unset] [(.int (2 : Int32)), (.int p1)])) _
    refine XS.iushr X0.here hx rfl (hb hby at_7) rfl ?_
    show Steps p.tables e below (s₁.setTop (mkF m 8 #[.val (.int p1), .val (.int p2), .val (.int p3), .val (.int p4), .val (.int kk), .unset, .unset, .unset, .unset, .unset, .unset, .unset, .unset, .unset] [(.int ((p1.toUInt32 >>> ((2 : Int32) &&& 31).toUInt32).toInt32))])) _
    refine XS.iconst X0.here hx rfl (hb hby at_8) ?_
    show Steps p.tables e below (s₁.setTop (mkF m 9 #[.val (.int p1), .val (.int p2), .val (.int p3), .val (.int p4), .val (.int kk), .unset, .unset, .unset, .unset, .unset, .unset, .unset, .unset, .unset] [(.int (3 : Int32)), (.int ((p1.toUInt32 >>> ((2 : Int32) &&& 31).toUInt32).toInt32))])) _
    refine XS.iand X0.here hx rfl (hb hby at_9) rfl ?_
    show Steps p.tables e below (s₁.setTop (mkF m 10 #[.val (.int p1), .val (.int p2), .val (.int p3), .val (.int p4), .val (.int kk), .unset, .unset, .unset, .unset, .unset, .unset, .unset, .unset, .unset] [(.int (((p1.toUInt32 >>> ((2 : Int32) &&& 31).toUInt32).toInt32) &&& (3 : Int32)))])) _
    refine XS.istore X0.here hx rfl (hb hby at_10) rfl (l' := #[.val (.int p1), .val (.int p2), .val (.int p3), .val (.int p4), .val (.int kk), .val (.int (((p1.toUInt32 >>> ((2 : Int32) &&& 31).toUInt32).toInt32) &&& (3 : Int32))), .unset, .unset, .unset, .unset, .unset, .unset, .unset, .unset]) rfl ?_
    show Steps p.tables e below (s₁.setTop (mkF m 12 #[.val (.int p1), .val (.int p2), .val (.int p3), .val (.int p4), .val (.int kk), .val (.int (((p1.toUInt32 >>> ((2 : Int32) &&& 31).toUInt32).toInt32) &&& (3 : Int32))), .unset, .unset, .unset, .unset, .unset, .unset, .unset, .unset] [])) _
    exact kt_
  obtain ⟨op, hop⟩ : ∃ z, z = (((p1.toUInt32 >>> ((2 : Int32) &&& 31).toUInt32).toInt32) &&& (3 : Int32)) := ⟨_, rfl⟩
  rw [← hop] at pre2
  have pre3 : ∀ tgt, Steps p.tables e below (s₁.setTop (mkF m 21 #[.val (.int p1), .val (.int p2), .val (.int p3), .val (.int p4), .val (.int kk), .val (.int op), .val (.int ((p2 &&& (1023 : Int32)) - (1 : Int32))), .unset, .unset, .unset, .unset, .unset, .unset, .unset] [])) tgt → Steps p.tables e below (s₁.setTop (entryFrame m #[(.int p1), (.int p2), (.int p3), (.int p4)] maxLocals)) tgt := fun tgt kt_ => by
    refine pre2 _ ?_
    show Steps p.tables e below (s₁.setTop (mkF m 12 #[.val (.int p1), .val (.int p2), .val (.int p3), .val (.int p4), .val (.int kk), .val (.int op), .unset, .unset, .unset, .unset, .unset, .unset, .unset, .unset] [])) _
    refine XS.iloadN X0.here hx rfl (hb hby at_12) rfl ?_
    show Steps p.tables e below (s₁.setTop (mkF m 13 #[.val (.int p1), .val (.int p2), .val (.int p3), .val (.int p4), .val (.int kk), .val (.int op), .unset, .unset, .unset, .unset, .unset, .unset, .unset, .unset] [(.int p2)])) _
    refine XS.sipush X0.here hx rfl (hb hby at_13) ?_
    show Steps p.tables e below (s₁.setTop (mkF m 16 #[.val (.int p1), .val (.int p2), .val (.int p3), .val (.int p4), .val (.int kk), .val (.int op), .unset, .unset, .unset, .unset, .unset, .unset, .unset, .unset] [(.int (1023 : Int32)), (.int p2)])) _
    refine XS.iand X0.here hx rfl (hb hby at_16) rfl ?_
    show Steps p.tables e below (s₁.setTop (mkF m 17 #[.val (.int p1), .val (.int p2), .val (.int p3), .val (.int p4), .val (.int kk), .val (.int op), .unset, .unset, .unset, .unset, .unset, .unset, .unset, .unset] [(.int (p2 &&& (1023 : Int32)))])) _
    refine XS.iconst X0.here hx rfl (hb hby at_17) ?_
    show Steps p.tables e below (s₁.setTop (mkF m 18 #[.val (.int p1), .val (.int p2), .val (.int p3), .val (.int p4), .val (.int kk), .val (.int op), .unset, .unset, .unset, .unset, .unset, .unset, .unset, .unset] [(.int (1 : Int32)), (.int (p2 &&& (1023 : Int32)))])) _
    refine XS.isub X0.here hx rfl (hb hby at_18) rfl ?_
    show Steps p.tables e below (s₁.setTop (mkF m 19 #[.val (.int p1), .val (.int p2), .val (.int p3), .val (.int p4), .val (.int kk), .val (.int op), .unset, .unset, .unset, .unset, .unset, .unset, .unset, .unset] [(.int ((p2 &&& (1023 : Int32)) - (1 : Int32)))])) _
    refine XS.istore X0.here hx rfl (hb hby at_19) rfl (l' := #[.val (.int p1), .val (.int p2), .val (.int p3), .val (.int p4), .val (.int kk), .val (.int op), .val (.int ((p2 &&& (1023 : Int32)) - (1 : Int32))), .unset, .unset, .unset, .unset, .unset, .unset, .unset]) rfl ?_
    show Steps p.tables e below (s₁.setTop (mkF m 21 #[.val (.int p1), .val (.int p2), .val (.int p3), .val (.int p4), .val (.int kk), .val (.int op), .val (.int ((p2 &&& (1023 : Int32)) - (1 : Int32))), .unset, .unset, .unset, .unset, .unset, .unset, .unset] [])) _
    exact kt_
  obtain ⟨t0, ht0⟩ : ∃ z, z = ((p2 &&& (1023 : Int32)) - (1 : Int32)) := ⟨_, rfl⟩
  rw [← ht0] at pre3
  have in_t0 : own_in (t0 + (1 : Int32)) := by rw [ht0]; exact (own_tr p2).1
  have kt_t0 : ¬ t0 < (-1 : Int32) := by rw [ht0]; exact (own_tr p2).2
  have pre4 : ∀ tgt, Steps p.tables e below (s₁.setTop (mkF m 30 #[.val (.int p1), .val (.int p2), .val (.int p3), .val (.int p4), .val (.int kk), .val (.int op), .val (.int t0), .val (.int ((p3 &&& (1023 : Int32)) - (1 : Int32))), .unset, .unset, .unset, .unset, .unset, .unset] [])) tgt → Steps p.tables e below (s₁.setTop (entryFrame m #[(.int p1), (.int p2), (.int p3), (.int p4)] maxLocals)) tgt := fun tgt kt_ => by
    refine pre3 _ ?_
    show Steps p.tables e below (s₁.setTop (mkF m 21 #[.val (.int p1), .val (.int p2), .val (.int p3), .val (.int p4), .val (.int kk), .val (.int op), .val (.int t0), .unset, .unset, .unset, .unset, .unset, .unset, .unset] [])) _
    refine XS.iloadN X0.here hx rfl (hb hby at_21) rfl ?_
    show Steps p.tables e below (s₁.setTop (mkF m 22 #[.val (.int p1), .val (.int p2), .val (.int p3), .val (.int p4), .val (.int kk), .val (.int op), .val (.int t0), .unset, .unset, .unset, .unset, .unset, .unset, .unset] [(.int p3)])) _
    refine XS.sipush X0.here hx rfl (hb hby at_22) ?_
    show Steps p.tables e below (s₁.setTop (mkF m 25 #[.val (.int p1), .val (.int p2), .val (.int p3), .val (.int p4), .val (.int kk), .val (.int op), .val (.int t0), .unset, .unset, .unset, .unset, .unset, .unset, .unset] [(.int (1023 : Int32)), (.int p3)])) _
    refine XS.iand X0.here hx rfl (hb hby at_25) rfl ?_
    show Steps p.tables e below (s₁.setTop (mkF m 26 #[.val (.int p1), .val (.int p2), .val (.int p3), .val (.int p4), .val (.int kk), .val (.int op), .val (.int t0), .unset, .unset, .unset, .unset, .unset, .unset, .unset] [(.int (p3 &&& (1023 : Int32)))])) _
    refine XS.iconst X0.here hx rfl (hb hby at_26) ?_
    show Steps p.tables e below (s₁.setTop (mkF m 27 #[.val (.int p1), .val (.int p2), .val (.int p3), .val (.int p4), .val (.int kk), .val (.int op), .val (.int t0), .unset, .unset, .unset, .unset, .unset, .unset, .unset] [(.int (1 : Int32)), (.int (p3 &&& (1023 : Int32)))])) _
    refine XS.isub X0.here hx rfl (hb hby at_27) rfl ?_
    show Steps p.tables e below (s₁.setTop (mkF m 28 #[.val (.int p1), .val (.int p2), .val (.int p3), .val (.int p4), .val (.int kk), .val (.int op), .val (.int t0), .unset, .unset, .unset, .unset, .unset, .unset, .unset] [(.int ((p3 &&& (1023 : Int32)) - (1 : Int32)))])) _
    refine XS.istore X0.here hx rfl (hb hby at_28) rfl (l' := #[.val (.int p1), .val (.int p2), .val (.int p3), .val (.int p4), .val (.int kk), .val (.int op), .val (.int t0), .val (.int ((p3 &&& (1023 : Int32)) - (1 : Int32))), .unset, .unset, .unset, .unset, .unset, .unset]) rfl ?_
    show Steps p.tables e below (s₁.setTop (mkF m 30 #[.val (.int p1), .val (.int p2), .val (.int p3), .val (.int p4), .val (.int kk), .val (.int op), .val (.int t0), .val (.int ((p3 &&& (1023 : Int32)) - (1 : Int32))), .unset, .unset, .unset, .unset, .unset, .unset] [])) _
    exact kt_
  obtain ⟨t1, ht1⟩ : ∃ z, z = ((p3 &&& (1023 : Int32)) - (1 : Int32)) := ⟨_, rfl⟩
  rw [← ht1] at pre4
  have in_t1 : own_in (t1 + (1 : Int32)) := by rw [ht1]; exact (own_tr p3).1
  have kt_t1 : ¬ t1 < (-1 : Int32) := by rw [ht1]; exact (own_tr p3).2
  have pre5 : ∀ tgt, Steps p.tables e below (s₁.setTop (mkF m 39 #[.val (.int p1), .val (.int p2), .val (.int p3), .val (.int p4), .val (.int kk), .val (.int op), .val (.int t0), .val (.int t1), .val (.int ((p4 &&& (1023 : Int32)) - (1 : Int32))), .unset, .unset, .unset, .unset, .unset] [])) tgt → Steps p.tables e below (s₁.setTop (entryFrame m #[(.int p1), (.int p2), (.int p3), (.int p4)] maxLocals)) tgt := fun tgt kt_ => by
    refine pre4 _ ?_
    show Steps p.tables e below (s₁.setTop (mkF m 30 #[.val (.int p1), .val (.int p2), .val (.int p3), .val (.int p4), .val (.int kk), .val (.int op), .val (.int t0), .val (.int t1), .unset, .unset, .unset, .unset, .unset, .unset] [])) _
    refine XS.iloadN X0.here hx rfl (hb hby at_30) rfl ?_
    show Steps p.tables e below (s₁.setTop (mkF m 31 #[.val (.int p1), .val (.int p2), .val (.int p3), .val (.int p4), .val (.int kk), .val (.int op), .val (.int t0), .val (.int t1), .unset, .unset, .unset, .unset, .unset, .unset] [(.int p4)])) _
    refine XS.sipush X0.here hx rfl (hb hby at_31) ?_
    show Steps p.tables e below (s₁.setTop (mkF m 34 #[.val (.int p1), .val (.int p2), .val (.int p3), .val (.int p4), .val (.int kk), .val (.int op), .val (.int t0), .val (.int t1), .unset, .unset, .unset, .unset, .unset, .unset] [(.int (1023 : Int32)), (.int p4)])) _
    refine XS.iand X0.here hx rfl (hb hby at_34) rfl ?_
    show Steps p.tables e below (s₁.setTop (mkF m 35 #[.val (.int p1), .val (.int p2), .val (.int p3), .val (.int p4), .val (.int kk), .val (.int op), .val (.int t0), .val (.int t1), .unset, .unset, .unset, .unset, .unset, .unset] [(.int (p4 &&& (1023 : Int32)))])) _
    refine XS.iconst X0.here hx rfl (hb hby at_35) ?_
    show Steps p.tables e below (s₁.setTop (mkF m 36 #[.val (.int p1), .val (.int p2), .val (.int p3), .val (.int p4), .val (.int kk), .val (.int op), .val (.int t0), .val (.int t1), .unset, .unset, .unset, .unset, .unset, .unset] [(.int (1 : Int32)), (.int (p4 &&& (1023 : Int32)))])) _
    refine XS.isub X0.here hx rfl (hb hby at_36) rfl ?_
    show Steps p.tables e below (s₁.setTop (mkF m 37 #[.val (.int p1), .val (.int p2), .val (.int p3), .val (.int p4), .val (.int kk), .val (.int op), .val (.int t0), .val (.int t1), .unset, .unset, .unset, .unset, .unset, .unset] [(.int ((p4 &&& (1023 : Int32)) - (1 : Int32)))])) _
    refine XS.istore X0.here hx rfl (hb hby at_37) rfl (l' := #[.val (.int p1), .val (.int p2), .val (.int p3), .val (.int p4), .val (.int kk), .val (.int op), .val (.int t0), .val (.int t1), .val (.int ((p4 &&& (1023 : Int32)) - (1 : Int32))), .unset, .unset, .unset, .unset, .unset]) rfl ?_
    show Steps p.tables e below (s₁.setTop (mkF m 39 #[.val (.int p1), .val (.int p2), .val (.int p3), .val (.int p4), .val (.int kk), .val (.int op), .val (.int t0), .val (.int t1), .val (.int ((p4 &&& (1023 : Int32)) - (1 : Int32))), .unset, .unset, .unset, .unset, .unset] [])) _
    exact kt_
  obtain ⟨t2, ht2⟩ : ∃ z, z = ((p4 &&& (1023 : Int32)) - (1 : Int32)) := ⟨_, rfl⟩
  rw [← ht2] at pre5
  have in_t2 : own_in (t2 + (1 : Int32)) := by rw [ht2]; exact (own_tr p4).1
  have kt_t2 : ¬ t2 < (-1 : Int32) := by rw [ht2]; exact (own_tr p4).2
  obtain ⟨T6, h6, X6, eh6, Ee6, A6, D6, U6, st6⟩ := newO X0 hx hZ hown (hw _ (List.mem_of_getElem? (i := 0) rfl)) (hw _ (List.mem_of_getElem? (i := 1) rfl)) (hw _ (List.mem_of_getElem? (i := 2) rfl)) e0 (g := (mkF m 39 #[.val (.int p1), .val (.int p2), .val (.int p3), .val (.int p4), .val (.int kk), .val (.int op), .val (.int t0), .val (.int t1), .val (.int t2), .unset, .unset, .unset, .unset, .unset] [])) rfl (hb hby at_39) (by decide) (by decide)
  obtain ⟨b6, g6⟩ : ∃ z, z = h0.size := ⟨_, rfl⟩
  rw [← g6] at A6 D6 st6
  have gf_b6 : n0 ≤ b6 := Nat.le_trans Z0 (Nat.le_of_eq g6.symm)
  have Zs7 : n0 ≤ h6.size := Nat.le_trans Z0 Ee6.1
  have O7 := O0.ext Ee6
  have F_high_b6 : Fld Z h6 b6 "com/example/dramatis/dramatis/analysis/RoleGraph$Targets" "high" "[J" .null := D6 (Or.inl (hw _ (List.mem_of_getElem? (i := 23) rfl))) (ty := (.array .long)) (by decide)
  have F_size_b6 : Fld Z h6 b6 "com/example/dramatis/dramatis/analysis/RoleGraph$Targets" "size" "I" (.int (0 : Int32)) := D6 (Or.inl (hw _ (List.mem_of_getElem? (i := 30) rfl))) (ty := .int) (by decide)
  have F_low_b6 : Fld Z h6 b6 "com/example/dramatis/dramatis/analysis/RoleGraph$Targets" "low" "J" (.long (0 : Int64)) := D6 (Or.inl (hw _ (List.mem_of_getElem? (i := 62) rfl))) (ty := .long) (by decide)
  have c8 := SN.ext O7.2
  obtain ⟨_, _, ⟨T9, L9, k9, n9⟩, -, X9, ⟨Lc9, hQ9, l9, y9, z9⟩, st9⟩ := X6.specialBack hx (y := (⟨"com/example/dramatis/dramatis/analysis/RoleGraph$Targets", "<init>", "()V"⟩ : MethodName)) rfl hown (mvT hZ (hw _ (List.mem_of_getElem? (i := 3) rfl))) (mvT hZ (hw _ (List.mem_of_getElem? (i := 4) rfl))) (mvT hZ (hw _ (List.mem_of_getElem? (i := 5) rfl))) (by decide) (backOf (W := 1) (rmTI l Z a0 hw [] b6 nw h6 n0 Zs7 A6 F_low_b6 F_high_b6 F_size_b6 gf_b6 c8) hZ (hw _ (List.mem_of_getElem? (i := 5) rfl)) (hw _ (List.mem_of_getElem? (i := 2) rfl)) (by decide) (by decide)) (g := (mkF m 43 #[.val (.int p1), .val (.int p2), .val (.int p3), .val (.int p4), .val (.int kk), .val (.int op), .val (.int t0), .val (.int t1), .val (.int t2), .unset, .unset, .unset, .unset, .unset] [(.ref b6), (.ref b6)])) rfl (by rw [hml]; rfl) (Steps.refl _) (a := b6) (argsL := []) (rest := [(.ref b6)]) (lenOf own_pd0 rfl) rfl (by show 2 * 0 + _ ≤ _; exact Nat.le_of_eq rfl) (hb hby at_43) (fun _ _ => ⟨rfl, eh6, (by decide : 1 + 0 ≤ _), (by decide : 3 + 0 ≤ _)⟩)
  dsimp only [Pt.U, Pt.locs, Pt.cells, Pt.slots] at X9 l9 y9 z9 st9 hQ9
  subst l9 y9 z9
  obtain ⟨rfl, N9q, K9, A9, F9a, F9b, F9c⟩ := hQ9
  have N9 := Fr.app N0 N9q
  have Zs10 : n0 ≤ T9.heap.size := Nat.le_trans Zs7 K9.1
  have O10 := O7.keep K9 (allS gf_b6 all0)
  have NA9 := NW.ext O10.2
  have Tg9 : Tg Z T9.heap n0 b6 0 (fun _ => false) := ⟨0, nw, kn, 0, fun _ => 0, 0, [], A9, F9a, F9b, F9c, NA9.pad (own_ws_zero 0), Or.inr rfl, by decide, fun _ _ => rfl, fun j _ => own_mem0 j, (own_card0 0).1, (own_card0 0).2.1, (own_card0 0).2.2.1, (own_card0 0).2.2.2⟩
  have pre11 : ∀ tgt, Steps p.tables e below (T9.setTop (mkF m 48 #[.val (.int p1), .val (.int p2), .val (.int p3), .val (.int p4), .val (.int kk), .val (.int op), .val (.int t0), .val (.int t1), .val (.int t2), .val (.ref b6), .unset, .unset, .unset, .unset] [])) tgt → Steps p.tables e below (s₁.setTop (entryFrame m #[(.int p1), (.int p2), (.int p3), (.int p4)] maxLocals)) tgt := fun tgt kt_ => by
    refine pre5 _ ?_
    show Steps p.tables e below (s₁.setTop (mkF m 39 #[.val (.int p1), .val (.int p2), .val (.int p3), .val (.int p4), .val (.int kk), .val (.int op), .val (.int t0), .val (.int t1), .val (.int t2), .unset, .unset, .unset, .unset, .unset] [])) _
    refine st6 _ ?_
    show Steps p.tables e below (T6.setTop (mkF m 42 #[.val (.int p1), .val (.int p2), .val (.int p3), .val (.int p4), .val (.int kk), .val (.int op), .val (.int t0), .val (.int t1), .val (.int t2), .unset, .unset, .unset, .unset, .unset] [(.ref b6)])) _
    refine XS.dup X6.here hx rfl (hb hby at_42) rfl rfl ?_
    show Steps p.tables e below (T6.setTop (mkF m 43 #[.val (.int p1), .val (.int p2), .val (.int p3), .val (.int p4), .val (.int kk), .val (.int op), .val (.int t0), .val (.int t1), .val (.int t2), .unset, .unset, .unset, .unset, .unset] [(.ref b6), (.ref b6)])) _
    refine st9.trans ?_
    show Steps p.tables e below (T9.setTop (mkF m 46 #[.val (.int p1), .val (.int p2), .val (.int p3), .val (.int p4), .val (.int kk), .val (.int op), .val (.int t0), .val (.int t1), .val (.int t2), .unset, .unset, .unset, .unset, .unset] [(.ref b6)])) _
    refine XS.astore X9.here hx rfl (hb hby at_46) rfl rfl (l' := #[.val (.int p1), .val (.int p2), .val (.int p3), .val (.int p4), .val (.int kk), .val (.int op), .val (.int t0), .val (.int t1), .val (.int t2), .val (.ref b6), .unset, .unset, .unset, .unset]) rfl ?_
    show Steps p.tables e below (T9.setTop (mkF m 48 #[.val (.int p1), .val (.int p2), .val (.int p3), .val (.int p4), .val (.int kk), .val (.int op), .val (.int t0), .val (.int t1), .val (.int t2), .val (.ref b6), .unset, .unset, .unset, .unset] [])) _
    exact kt_
  obtain ⟨T12, Lj12, X12, N12, Zs12, Oj0, Tj0, pre12⟩ : ∃ (Tj : State) (Lj : List Loc), Stand p l e room_1 s m #[(.int p1), (.int p2), (.int p3), (.int p4)] below meth c Tj Lj 3 19 ∧ Fr n0 Lj ∧ n0 ≤ Tj.heap.size ∧ Old Z n0 Tj.heap ∧ Tg Z Tj.heap n0 b6 1 (own_ad (decide ((0 : Int32) < kk)) (t0 + (1 : Int32)) (fun _ => false)) ∧ ∀ tgt, Steps p.tables e below (Tj.setTop (mkF m 64 #[.val (.int p1), .val (.int p2), .val (.int p3), .val (.int p4), .val (.int kk), .val (.int op), .val (.int t0), .val (.int t1), .val (.int t2), .val (.ref b6), .unset, .unset, .unset, .unset] [])) tgt → Steps p.tables e below (s₁.setTop (entryFrame m #[(.int p1), (.int p2), (.int p3), (.int p4)] maxLocals)) tgt := by
    have pre13 : ∀ tgt, Steps p.tables e below (T9.setTop (mkF m 50 #[.val (.int p1), .val (.int p2), .val (.int p3), .val (.int p4), .val (.int kk), .val (.int op), .val (.int t0), .val (.int t1), .val (.int t2), .val (.ref b6), .unset, .unset, .unset, .unset] [(.int kk)])) tgt → Steps p.tables e below (s₁.setTop (entryFrame m #[(.int p1), (.int p2), (.int p3), (.int p4)] maxLocals)) tgt := fun tgt kt_ => by
      refine pre11 _ ?_
      show Steps p.tables e below (T9.setTop (mkF m 48 #[.val (.int p1), .val (.int p2), .val (.int p3), .val (.int p4), .val (.int kk), .val (.int op), .val (.int t0), .val (.int t1), .val (.int t2), .val (.ref b6), .unset, .unset, .unset, .unset] [])) _
      refine XS.iload X9.here hx rfl (hb hby at_48) rfl ?_
      show Steps p.tables e below (T9.setTop (mkF m 50 #[.val (.int p1), .val (.int p2), .val (.int p3), .val (.int p4), .val (.int kk), .val (.int op), .val (.int t0), .val (.int t1), .val (.int t2), .val (.ref b6), .unset, .unset, .unset, .unset] [(.int kk)])) _
      exact kt_
    rcases Decidable.em ((0 : Int32) < kk) with hc50_14 | hc50_14
    ·
      have c15 := SH.ext O10.2
      have c16 := SC.ext O10.2
      obtain ⟨_, _, ⟨T17, L17, k17, n17⟩, -, X17, ⟨Lc17, hQ17, l17, y17, z17⟩, st17⟩ := Jvm.LawKit.callS X9 hx (y := (⟨"java/lang/Integer", "valueOf", "(I)Ljava/lang/Integer;"⟩ : MethodName)) hown (mvT hZ (hw _ (List.mem_of_getElem? (i := 31) rfl))) (mvT hZ (hw _ (List.mem_of_getElem? (i := 32) rfl))) (mvT hZ (hw _ (List.mem_of_getElem? (i := 33) rfl))) (mvT hZ (hw _ (List.mem_of_getElem? (i := 34) rfl))) (by decide) (backOf (W := 1) (rmVO l Z a0 hw [] t0 ca cc T9.heap n0 Zs10 c15 c16 BX O10) hZ (hw _ (List.mem_of_getElem? (i := 34) rfl)) (hw _ (List.mem_of_getElem? (i := 33) rfl)) (by decide) (by decide)) (g := (mkF m 57 #[.val (.int p1), .val (.int p2), .val (.int p3), .val (.int p4), .val (.int kk), .val (.int op), .val (.int t0), .val (.int t1), .val (.int t2), .val (.ref b6), .unset, .unset, .unset, .unset] [(.int t0), (.ref b6)])) rfl (by rw [hml]; rfl) (argsL := [(.int t0)]) (rest := [(.ref b6)]) (lenOf own_pd8 rfl) rfl (by show 2 * 0 + _ ≤ _; exact Nat.le_of_eq rfl) (hb hby at_57) (fun _ _ => ⟨rfl, rfl, (by decide : 1 + 1 ≤ _), (by decide : 3 + 1 ≤ _)⟩)
      dsimp only [Pt.U, Pt.locs, Pt.cells, Pt.slots] at X17 l17 y17 z17 st17 hQ17
      subst l17 y17 z17
      obtain ⟨bx17, rfl, N17q, K17, A17, F17⟩ := hQ17
      have N17 := Fr.app N9 N17q
      have Zs18 : n0 ≤ T17.heap.size := Nat.le_trans Zs10 K17.1
      have O18 := O10.keep K17 all0
      have c19 := ((A6.keep K9).keep K17)
      have c20 := (Tg9.keep K17)
      have EX21 := own_tgExa c20
      obtain ⟨cq22, kq22, q22a, q22b, q22c⟩ := isOf hZ rfl c19
      obtain ⟨_, _, ⟨T22, L22, k22, n22⟩, -, X22, ⟨Lc22, hQ22, l22, y22, z22⟩, st22⟩ := X17.virtualBack hx (y := (⟨"com/example/dramatis/dramatis/analysis/RoleGraph$Targets", "add", "(Ljava/lang/Integer;)Z"⟩ : MethodName)) (z := (⟨"com/example/dramatis/dramatis/analysis/RoleGraph$Targets", "add", "(Ljava/lang/Integer;)Z"⟩ : MethodName)) hown (mvT hZ (hw _ (List.mem_of_getElem? (i := 75) rfl))) (mvT hZ (hw _ (List.mem_of_getElem? (i := 76) rfl))) (notFace_of_selects (args := #[]) (mvT hZ (hw _ (List.mem_of_getElem? (i := 78) rfl)))) (mvT hZ (hw _ (List.mem_of_getElem? (i := 78) rfl))) (mvT hZ (hw _ (List.mem_of_getElem? (i := 77) rfl))) (by decide) (backOf (W := 0) (rmAdd l Z a0 hw [] b6 bx17 t0 0 (fun _ => false) T17.heap n0 Zs18 c20 gf_b6 O18 A17 F17 in_t0 (by decide) EX21) hZ (hw _ (List.mem_of_getElem? (i := 79) rfl)) (hw _ (List.mem_of_getElem? (i := 2) rfl)) (by decide) (by decide)) q22a q22c (g := (mkF m 60 #[.val (.int p1), .val (.int p2), .val (.int p3), .val (.int p4), .val (.int kk), .val (.int op), .val (.int t0), .val (.int t1), .val (.int t2), .val (.ref b6), .unset, .unset, .unset, .unset] [(.ref bx17), (.ref b6)])) rfl (by rw [hml]; rfl) (Steps.refl _) (argsL := [(.ref bx17)]) (rest := []) (lenOf own_pd9 rfl) rfl (by show 2 * 0 + _ ≤ _; exact Nat.le_of_eq rfl) (hb hby at_60) (fun _ _ => ⟨rfl, rfl, (by decide : 2 + 1 ≤ _), (by decide : 4 + 15 ≤ _)⟩)
      dsimp only [Pt.U, Pt.locs, Pt.cells, Pt.slots] at X22 l22 y22 z22 st22 hQ22
      subst l22 y22 z22
      obtain ⟨r22, rfl, N22q, O22, Tg22⟩ := hQ22
      have N22 := Fr.app N17 N22q
      have Zs22 : n0 ≤ T22.heap.size := own_osz O22
      have pre23 : ∀ tgt, Steps p.tables e below (T22.setTop (mkF m 64 #[.val (.int p1), .val (.int p2), .val (.int p3), .val (.int p4), .val (.int kk), .val (.int op), .val (.int t0), .val (.int t1), .val (.int t2), .val (.ref b6), .unset, .unset, .unset, .unset] [])) tgt → Steps p.tables e below (s₁.setTop (entryFrame m #[(.int p1), (.int p2), (.int p3), (.int p4)] maxLocals)) tgt := fun tgt kt_ => by
        refine pre13 _ ?_
        show Steps p.tables e below (T9.setTop (mkF m 50 #[.val (.int p1), .val (.int p2), .val (.int p3), .val (.int p4), .val (.int kk), .val (.int op), .val (.int t0), .val (.int t1), .val (.int t2), .val (.ref b6), .unset, .unset, .unset, .unset] [(.int kk)])) _
        refine XS.ifNo X9.here hx rfl (hb hby at_50) rfl ((if0 _ _).trans (tlt hc50_14).2.2.2) ?_
        show Steps p.tables e below (T9.setTop (mkF m 53 #[.val (.int p1), .val (.int p2), .val (.int p3), .val (.int p4), .val (.int kk), .val (.int op), .val (.int t0), .val (.int t1), .val (.int t2), .val (.ref b6), .unset, .unset, .unset, .unset] [])) _
        refine XS.aload X9.here hx rfl (hb hby at_53) rfl rfl ?_
        show Steps p.tables e below (T9.setTop (mkF m 55 #[.val (.int p1), .val (.int p2), .val (.int p3), .val (.int p4), .val (.int kk), .val (.int op), .val (.int t0), .val (.int t1), .val (.int t2), .val (.ref b6), .unset, .unset, .unset, .unset] [(.ref b6)])) _
        refine XS.iload X9.here hx rfl (hb hby at_55) rfl ?_
        show Steps p.tables e below (T9.setTop (mkF m 57 #[.val (.int p1), .val (.int p2), .val (.int p3), .val (.int p4), .val (.int kk), .val (.int op), .val (.int t0), .val (.int t1), .val (.int t2), .val (.ref b6), .unset, .unset, .unset, .unset] [(.int t0), (.ref b6)])) _
        refine st17 _ ?_
        show Steps p.tables e below (T17.setTop (mkF m 60 #[.val (.int p1), .val (.int p2), .val (.int p3), .val (.int p4), .val (.int kk), .val (.int op), .val (.int t0), .val (.int t1), .val (.int t2), .val (.ref b6), .unset, .unset, .unset, .unset] [(.ref bx17), (.ref b6)])) _
        refine st22.trans ?_
        show Steps p.tables e below (T22.setTop (mkF m 63 #[.val (.int p1), .val (.int p2), .val (.int p3), .val (.int p4), .val (.int kk), .val (.int op), .val (.int t0), .val (.int t1), .val (.int t2), .val (.ref b6), .unset, .unset, .unset, .unset] [(.int r22)])) _
        refine XS.pop X22.here hx rfl (hb hby at_63) rfl rfl ?_
        show Steps p.tables e below (T22.setTop (mkF m 64 #[.val (.int p1), .val (.int p2), .val (.int p3), .val (.int p4), .val (.int kk), .val (.int op), .val (.int t0), .val (.int t1), .val (.int t2), .val (.ref b6), .unset, .unset, .unset, .unset] [])) _
        exact kt_
      exact ⟨_, _, X22.more (by decide) (by decide), N22, Zs22, O22, (by rw [decide_eq_true hc50_14]; exact Tg22), pre23⟩
    ·
      have pre24 : ∀ tgt, Steps p.tables e below (T9.setTop (mkF m 64 #[.val (.int p1), .val (.int p2), .val (.int p3), .val (.int p4), .val (.int kk), .val (.int op), .val (.int t0), .val (.int t1), .val (.int t2), .val (.ref b6), .unset, .unset, .unset, .unset] [])) tgt → Steps p.tables e below (s₁.setTop (entryFrame m #[(.int p1), (.int p2), (.int p3), (.int p4)] maxLocals)) tgt := fun tgt kt_ => by
        refine pre13 _ ?_
        show Steps p.tables e below (T9.setTop (mkF m 50 #[.val (.int p1), .val (.int p2), .val (.int p3), .val (.int p4), .val (.int kk), .val (.int op), .val (.int t0), .val (.int t1), .val (.int t2), .val (.ref b6), .unset, .unset, .unset, .unset] [(.int kk)])) _
        refine XS.ifYes X9.here hx rfl (pc0 := 50) (pc' := 64) rfl (hb hby at_50) rfl ((if0 _ _).trans (flt hc50_14).2.2.2) (by decide) (by decide) ?_
        show Steps p.tables e below (T9.setTop (mkF m 64 #[.val (.int p1), .val (.int p2), .val (.int p3), .val (.int p4), .val (.int kk), .val (.int op), .val (.int t0), .val (.int t1), .val (.int t2), .val (.ref b6), .unset, .unset, .unset, .unset] [])) _
        exact kt_
      exact ⟨_, _, X9.more (by decide) (by decide), N9, Zs10, O10, (by rw [decide_eq_false hc50_14]; exact Tg.congr Tg9 (Nat.le_succ _) (fun j _ => own_adF (M := (fun _ => false)) j)), pre24⟩
  obtain ⟨T25, Lj25, X25, N25, Zs25, Oj1, Tj1, pre25⟩ : ∃ (Tj : State) (Lj : List Loc), Stand p l e room_1 s m #[(.int p1), (.int p2), (.int p3), (.int p4)] below meth c Tj Lj 5 35 ∧ Fr n0 Lj ∧ n0 ≤ Tj.heap.size ∧ Old Z n0 Tj.heap ∧ Tg Z Tj.heap n0 b6 2 (own_ad (decide ((1 : Int32) < kk)) (t1 + (1 : Int32)) (own_ad (decide ((0 : Int32) < kk)) (t0 + (1 : Int32)) (fun _ => false))) ∧ ∀ tgt, Steps p.tables e below (Tj.setTop (mkF m 81 #[.val (.int p1), .val (.int p2), .val (.int p3), .val (.int p4), .val (.int kk), .val (.int op), .val (.int t0), .val (.int t1), .val (.int t2), .val (.ref b6), .unset, .unset, .unset, .unset] [])) tgt → Steps p.tables e below (s₁.setTop (entryFrame m #[(.int p1), (.int p2), (.int p3), (.int p4)] maxLocals)) tgt := by
    have pre26 : ∀ tgt, Steps p.tables e below (T12.setTop (mkF m 67 #[.val (.int p1), .val (.int p2), .val (.int p3), .val (.int p4), .val (.int kk), .val (.int op), .val (.int t0), .val (.int t1), .val (.int t2), .val (.ref b6), .unset, .unset, .unset, .unset] [(.int (1 : Int32)), (.int kk)])) tgt → Steps p.tables e below (s₁.setTop (entryFrame m #[(.int p1), (.int p2), (.int p3), (.int p4)] maxLocals)) tgt := fun tgt kt_ => by
      refine pre12 _ ?_
      show Steps p.tables e below (T12.setTop (mkF m 64 #[.val (.int p1), .val (.int p2), .val (.int p3), .val (.int p4), .val (.int kk), .val (.int op), .val (.int t0), .val (.int t1), .val (.int t2), .val (.ref b6), .unset, .unset, .unset, .unset] [])) _
      refine XS.iload X12.here hx rfl (hb hby at_64) rfl ?_
      show Steps p.tables e below (T12.setTop (mkF m 66 #[.val (.int p1), .val (.int p2), .val (.int p3), .val (.int p4), .val (.int kk), .val (.int op), .val (.int t0), .val (.int t1), .val (.int t2), .val (.ref b6), .unset, .unset, .unset, .unset] [(.int kk)])) _
      refine XS.iconst X12.here hx rfl (hb hby at_66) ?_
      show Steps p.tables e below (T12.setTop (mkF m 67 #[.val (.int p1), .val (.int p2), .val (.int p3), .val (.int p4), .val (.int kk), .val (.int op), .val (.int t0), .val (.int t1), .val (.int t2), .val (.ref b6), .unset, .unset, .unset, .unset] [(.int (1 : Int32)), (.int kk)])) _
      exact kt_
    rcases Decidable.em ((1 : Int32) < kk) with hc67_27 | hc67_27
    ·
      have c28 := SH.ext Oj0.2
      have c29 := SC.ext Oj0.2
      obtain ⟨_, _, ⟨T30, L30, k30, n30⟩, -, X30, ⟨Lc30, hQ30, l30, y30, z30⟩, st30⟩ := Jvm.LawKit.callS X12 hx (y := (⟨"java/lang/Integer", "valueOf", "(I)Ljava/lang/Integer;"⟩ : MethodName)) hown (mvT hZ (hw _ (List.mem_of_getElem? (i := 31) rfl))) (mvT hZ (hw _ (List.mem_of_getElem? (i := 32) rfl))) (mvT hZ (hw _ (List.mem_of_getElem? (i := 33) rfl))) (mvT hZ (hw _ (List.mem_of_getElem? (i := 34) rfl))) (by decide) (backOf (W := 1) (rmVO l Z a0 hw [] t1 ca cc T12.heap n0 Zs12 c28 c29 BX Oj0) hZ (hw _ (List.mem_of_getElem? (i := 34) rfl)) (hw _ (List.mem_of_getElem? (i := 33) rfl)) (by decide) (by decide)) (g := (mkF m 74 #[.val (.int p1), .val (.int p2), .val (.int p3), .val (.int p4), .val (.int kk), .val (.int op), .val (.int t0), .val (.int t1), .val (.int t2), .val (.ref b6), .unset, .unset, .unset, .unset] [(.int t1), (.ref b6)])) rfl (by rw [hml]; rfl) (argsL := [(.int t1)]) (rest := [(.ref b6)]) (lenOf own_pd8 rfl) rfl (by show 2 * 0 + _ ≤ _; exact Nat.le_of_eq rfl) (hb hby at_74) (fun _ _ => ⟨rfl, rfl, (by decide : 3 + 1 ≤ _), (by decide : 19 + 1 ≤ _)⟩)
      dsimp only [Pt.U, Pt.locs, Pt.cells, Pt.slots] at X30 l30 y30 z30 st30 hQ30
      subst l30 y30 z30
      obtain ⟨bx30, rfl, N30q, K30, A30, F30⟩ := hQ30
      have N30 := Fr.app N12 N30q
      have Zs31 : n0 ≤ T30.heap.size := Nat.le_trans Zs12 K30.1
      have O31 := Oj0.keep K30 all0
      have c32 := ((own_tgExa Tj0).keep K30)
      have c33 := (Tj0.keep K30)
      have EX34 := own_tgExa c33
      obtain ⟨cq35, kq35, q35a, q35b, q35c⟩ := isOf hZ rfl c32
      obtain ⟨_, _, ⟨T35, L35, k35, n35⟩, -, X35, ⟨Lc35, hQ35, l35, y35, z35⟩, st35⟩ := X30.virtualBack hx (y := (⟨"com/example/dramatis/dramatis/analysis/RoleGraph$Targets", "add", "(Ljava/lang/Integer;)Z"⟩ : MethodName)) (z := (⟨"com/example/dramatis/dramatis/analysis/RoleGraph$Targets", "add", "(Ljava/lang/Integer;)Z"⟩ : MethodName)) hown (mvT hZ (hw _ (List.mem_of_getElem? (i := 75) rfl))) (mvT hZ (hw _ (List.mem_of_getElem? (i := 76) rfl))) (notFace_of_selects (args := #[]) (mvT hZ (hw _ (List.mem_of_getElem? (i := 78) rfl)))) (mvT hZ (hw _ (List.mem_of_getElem? (i := 78) rfl))) (mvT hZ (hw _ (List.mem_of_getElem? (i := 77) rfl))) (by decide) (backOf (W := 0) (rmAdd l Z a0 hw [] b6 bx30 t1 1 (own_ad (decide ((0 : Int32) < kk)) (t0 + (1 : Int32)) (fun _ => false)) T30.heap n0 Zs31 c33 gf_b6 O31 A30 F30 in_t1 (by decide) EX34) hZ (hw _ (List.mem_of_getElem? (i := 79) rfl)) (hw _ (List.mem_of_getElem? (i := 2) rfl)) (by decide) (by decide)) q35a q35c (g := (mkF m 77 #[.val (.int p1), .val (.int p2), .val (.int p3), .val (.int p4), .val (.int kk), .val (.int op), .val (.int t0), .val (.int t1), .val (.int t2), .val (.ref b6), .unset, .unset, .unset, .unset] [(.ref bx30), (.ref b6)])) rfl (by rw [hml]; rfl) (Steps.refl _) (argsL := [(.ref bx30)]) (rest := []) (lenOf own_pd9 rfl) rfl (by show 2 * 0 + _ ≤ _; exact Nat.le_of_eq rfl) (hb hby at_77) (fun _ _ => ⟨rfl, rfl, (by decide : 4 + 1 ≤ _), (by decide : 20 + 15 ≤ _)⟩)
      dsimp only [Pt.U, Pt.locs, Pt.cells, Pt.slots] at X35 l35 y35 z35 st35 hQ35
      subst l35 y35 z35
      obtain ⟨r35, rfl, N35q, O35, Tg35⟩ := hQ35
      have N35 := Fr.app N30 N35q
      have Zs35 : n0 ≤ T35.heap.size := own_osz O35
      have pre36 : ∀ tgt, Steps p.tables e below (T35.setTop (mkF m 81 #[.val (.int p1), .val (.int p2), .val (.int p3), .val (.int p4), .val (.int kk), .val (.int op), .val (.int t0), .val (.int t1), .val (.int t2), .val (.ref b6), .unset, .unset, .unset, .unset] [])) tgt → Steps p.tables e below (s₁.setTop (entryFrame m #[(.int p1), (.int p2), (.int p3), (.int p4)] maxLocals)) tgt := fun tgt kt_ => by
        refine pre26 _ ?_
        show Steps p.tables e below (T12.setTop (mkF m 67 #[.val (.int p1), .val (.int p2), .val (.int p3), .val (.int p4), .val (.int kk), .val (.int op), .val (.int t0), .val (.int t1), .val (.int t2), .val (.ref b6), .unset, .unset, .unset, .unset] [(.int (1 : Int32)), (.int kk)])) _
        refine XS.icmpNo X12.here hx rfl (hb hby at_67) rfl (tlt hc67_27).2.2.2 ?_
        show Steps p.tables e below (T12.setTop (mkF m 70 #[.val (.int p1), .val (.int p2), .val (.int p3), .val (.int p4), .val (.int kk), .val (.int op), .val (.int t0), .val (.int t1), .val (.int t2), .val (.ref b6), .unset, .unset, .unset, .unset] [])) _
        refine XS.aload X12.here hx rfl (hb hby at_70) rfl rfl ?_
        show Steps p.tables e below (T12.setTop (mkF m 72 #[.val (.int p1), .val (.int p2), .val (.int p3), .val (.int p4), .val (.int kk), .val (.int op), .val (.int t0), .val (.int t1), .val (.int t2), .val (.ref b6), .unset, .unset, .unset, .unset] [(.ref b6)])) _
        refine XS.iload X12.here hx rfl (hb hby at_72) rfl ?_
        show Steps p.tables e below (T12.setTop (mkF m 74 #[.val (.int p1), .val (.int p2), .val (.int p3), .val (.int p4), .val (.int kk), .val (.int op), .val (.int t0), .val (.int t1), .val (.int t2), .val (.ref b6), .unset, .unset, .unset, .unset] [(.int t1), (.ref b6)])) _
        refine st30 _ ?_
        show Steps p.tables e below (T30.setTop (mkF m 77 #[.val (.int p1), .val (.int p2), .val (.int p3), .val (.int p4), .val (.int kk), .val (.int op), .val (.int t0), .val (.int t1), .val (.int t2), .val (.ref b6), .unset, .unset, .unset, .unset] [(.ref bx30), (.ref b6)])) _
        refine st35.trans ?_
        show Steps p.tables e below (T35.setTop (mkF m 80 #[.val (.int p1), .val (.int p2), .val (.int p3), .val (.int p4), .val (.int kk), .val (.int op), .val (.int t0), .val (.int t1), .val (.int t2), .val (.ref b6), .unset, .unset, .unset, .unset] [(.int r35)])) _
        refine XS.pop X35.here hx rfl (hb hby at_80) rfl rfl ?_
        show Steps p.tables e below (T35.setTop (mkF m 81 #[.val (.int p1), .val (.int p2), .val (.int p3), .val (.int p4), .val (.int kk), .val (.int op), .val (.int t0), .val (.int t1), .val (.int t2), .val (.ref b6), .unset, .unset, .unset, .unset] [])) _
        exact kt_
      exact ⟨_, _, X35.more (by decide) (by decide), N35, Zs35, O35, (by rw [decide_eq_true hc67_27]; exact Tg35), pre36⟩
    ·
      have pre37 : ∀ tgt, Steps p.tables e below (T12.setTop (mkF m 81 #[.val (.int p1), .val (.int p2), .val (.int p3), .val (.int p4), .val (.int kk), .val (.int op), .val (.int t0), .val (.int t1), .val (.int t2), .val (.ref b6), .unset, .unset, .unset, .unset] [])) tgt → Steps p.tables e below (s₁.setTop (entryFrame m #[(.int p1), (.int p2), (.int p3), (.int p4)] maxLocals)) tgt := fun tgt kt_ => by
        refine pre26 _ ?_
        show Steps p.tables e below (T12.setTop (mkF m 67 #[.val (.int p1), .val (.int p2), .val (.int p3), .val (.int p4), .val (.int kk), .val (.int op), .val (.int t0), .val (.int t1), .val (.int t2), .val (.ref b6), .unset, .unset, .unset, .unset] [(.int (1 : Int32)), (.int kk)])) _
        refine XS.icmpYes X12.here hx rfl (pc0 := 67) (pc' := 81) rfl (hb hby at_67) rfl (flt hc67_27).2.2.2 (by decide) (by decide) ?_
        show Steps p.tables e below (T12.setTop (mkF m 81 #[.val (.int p1), .val (.int p2), .val (.int p3), .val (.int p4), .val (.int kk), .val (.int op), .val (.int t0), .val (.int t1), .val (.int t2), .val (.ref b6), .unset, .unset, .unset, .unset] [])) _
        exact kt_
      exact ⟨_, _, X12.more (by decide) (by decide), N12, Zs12, Oj0, (by rw [decide_eq_false hc67_27]; exact Tg.congr Tj0 (Nat.le_succ _) (fun j _ => own_adF (M := (own_ad (decide ((0 : Int32) < kk)) (t0 + (1 : Int32)) (fun _ => false))) j)), pre37⟩
  obtain ⟨T38, Lj38, X38, N38, Zs38, Oj2, Tj2, pre38⟩ : ∃ (Tj : State) (Lj : List Loc), Stand p l e room_1 s m #[(.int p1), (.int p2), (.int p3), (.int p4)] below meth c Tj Lj 7 51 ∧ Fr n0 Lj ∧ n0 ≤ Tj.heap.size ∧ Old Z n0 Tj.heap ∧ Tg Z Tj.heap n0 b6 3 (own_ad (decide ((2 : Int32) < kk)) (t2 + (1 : Int32)) (own_ad (decide ((1 : Int32) < kk)) (t1 + (1 : Int32)) (own_ad (decide ((0 : Int32) < kk)) (t0 + (1 : Int32)) (fun _ => false)))) ∧ ∀ tgt, Steps p.tables e below (Tj.setTop (mkF m 98 #[.val (.int p1), .val (.int p2), .val (.int p3), .val (.int p4), .val (.int kk), .val (.int op), .val (.int t0), .val (.int t1), .val (.int t2), .val (.ref b6), .unset, .unset, .unset, .unset] [])) tgt → Steps p.tables e below (s₁.setTop (entryFrame m #[(.int p1), (.int p2), (.int p3), (.int p4)] maxLocals)) tgt := by
    have pre39 : ∀ tgt, Steps p.tables e below (T25.setTop (mkF m 84 #[.val (.int p1), .val (.int p2), .val (.int p3), .val (.int p4), .val (.int kk), .val (.int op), .val (.int t0), .val (.int t1), .val (.int t2), .val (.ref b6), .unset, .unset, .unset, .unset] [(.int (2 : Int32)), (.int kk)])) tgt → Steps p.tables e below (s₁.setTop (entryFrame m #[(.int p1), (.int p2), (.int p3), (.int p4)] maxLocals)) tgt := fun tgt kt_ => by
      refine pre25 _ ?_
      show Steps p.tables e below (T25.setTop (mkF m 81 #[.val (.int p1), .val (.int p2), .val (.int p3), .val (.int p4), .val (.int kk), .val (.int op), .val (.int t0), .val (.int t1), .val (.int t2), .val (.ref b6), .unset, .unset, .unset, .unset] [])) _
      refine XS.iload X25.here hx rfl (hb hby at_81) rfl ?_
      show Steps p.tables e below (T25.setTop (mkF m 83 #[.val (.int p1), .val (.int p2), .val (.int p3), .val (.int p4), .val (.int kk), .val (.int op), .val (.int t0), .val (.int t1), .val (.int t2), .val (.ref b6), .unset, .unset, .unset, .unset] [(.int kk)])) _
      refine XS.iconst X25.here hx rfl (hb hby at_83) ?_
      show Steps p.tables e below (T25.setTop (mkF m 84 #[.val (.int p1), .val (.int p2), .val (.int p3), .val (.int p4), .val (.int kk), .val (.int op), .val (.int t0), .val (.int t1), .val (.int t2), .val (.ref b6), .unset, .unset, .unset, .unset] [(.int (2 : Int32)), (.int kk)])) _
      exact kt_
    rcases Decidable.em ((2 : Int32) < kk) with hc84_40 | hc84_40
    ·
      have c41 := SH.ext Oj1.2
      have c42 := SC.ext Oj1.2
      obtain ⟨_, _, ⟨T43, L43, k43, n43⟩, -, X43, ⟨Lc43, hQ43, l43, y43, z43⟩, st43⟩ := Jvm.LawKit.callS X25 hx (y := (⟨"java/lang/Integer", "valueOf", "(I)Ljava/lang/Integer;"⟩ : MethodName)) hown (mvT hZ (hw _ (List.mem_of_getElem? (i := 31) rfl))) (mvT hZ (hw _ (List.mem_of_getElem? (i := 32) rfl))) (mvT hZ (hw _ (List.mem_of_getElem? (i := 33) rfl))) (mvT hZ (hw _ (List.mem_of_getElem? (i := 34) rfl))) (by decide) (backOf (W := 1) (rmVO l Z a0 hw [] t2 ca cc T25.heap n0 Zs25 c41 c42 BX Oj1) hZ (hw _ (List.mem_of_getElem? (i := 34) rfl)) (hw _ (List.mem_of_getElem? (i := 33) rfl)) (by decide) (by decide)) (g := (mkF m 91 #[.val (.int p1), .val (.int p2), .val (.int p3), .val (.int p4), .val (.int kk), .val (.int op), .val (.int t0), .val (.int t1), .val (.int t2), .val (.ref b6), .unset, .unset, .unset, .unset] [(.int t2), (.ref b6)])) rfl (by rw [hml]; rfl) (argsL := [(.int t2)]) (rest := [(.ref b6)]) (lenOf own_pd8 rfl) rfl (by show 2 * 0 + _ ≤ _; exact Nat.le_of_eq rfl) (hb hby at_91) (fun _ _ => ⟨rfl, rfl, (by decide : 5 + 1 ≤ _), (by decide : 35 + 1 ≤ _)⟩)
      dsimp only [Pt.U, Pt.locs, Pt.cells, Pt.slots] at X43 l43 y43 z43 st43 hQ43
      subst l43 y43 z43
      obtain ⟨bx43, rfl, N43q, K43, A43, F43⟩ := hQ43
      have N43 := Fr.app N25 N43q
      have Zs44 : n0 ≤ T43.heap.size := Nat.le_trans Zs25 K43.1
      have O44 := Oj1.keep K43 all0
      have c45 := ((own_tgExa Tj1).keep K43)
      have c46 := (Tj1.keep K43)
      have EX47 := own_tgExa c46
      obtain ⟨cq48, kq48, q48a, q48b, q48c⟩ := isOf hZ rfl c45
      obtain ⟨_, _, ⟨T48, L48, k48, n48⟩, -, X48, ⟨Lc48, hQ48, l48, y48, z48⟩, st48⟩ := X43.virtualBack hx (y := (⟨"com/example/dramatis/dramatis/analysis/RoleGraph$Targets", "add", "(Ljava/lang/Integer;)Z"⟩ : MethodName)) (z := (⟨"com/example/dramatis/dramatis/analysis/RoleGraph$Targets", "add", "(Ljava/lang/Integer;)Z"⟩ : MethodName)) hown (mvT hZ (hw _ (List.mem_of_getElem? (i := 75) rfl))) (mvT hZ (hw _ (List.mem_of_getElem? (i := 76) rfl))) (notFace_of_selects (args := #[]) (mvT hZ (hw _ (List.mem_of_getElem? (i := 78) rfl)))) (mvT hZ (hw _ (List.mem_of_getElem? (i := 78) rfl))) (mvT hZ (hw _ (List.mem_of_getElem? (i := 77) rfl))) (by decide) (backOf (W := 0) (rmAdd l Z a0 hw [] b6 bx43 t2 2 (own_ad (decide ((1 : Int32) < kk)) (t1 + (1 : Int32)) (own_ad (decide ((0 : Int32) < kk)) (t0 + (1 : Int32)) (fun _ => false))) T43.heap n0 Zs44 c46 gf_b6 O44 A43 F43 in_t2 (by decide) EX47) hZ (hw _ (List.mem_of_getElem? (i := 79) rfl)) (hw _ (List.mem_of_getElem? (i := 2) rfl)) (by decide) (by decide)) q48a q48c (g := (mkF m 94 #[.val (.int p1), .val (.int p2), .val (.int p3), .val (.int p4), .val (.int kk), .val (.int op), .val (.int t0), .val (.int t1), .val (.int t2), .val (.ref b6), .unset, .unset, .unset, .unset] [(.ref bx43), (.ref b6)])) rfl (by rw [hml]; rfl) (Steps.refl _) (argsL := [(.ref bx43)]) (rest := []) (lenOf own_pd9 rfl) rfl (by show 2 * 0 + _ ≤ _; exact Nat.le_of_eq rfl) (hb hby at_94) (fun _ _ => ⟨rfl, rfl, (by decide : 6 + 1 ≤ _), (by decide : 36 + 15 ≤ _)⟩)
      dsimp only [Pt.U, Pt.locs, Pt.cells, Pt.slots] at X48 l48 y48 z48 st48 hQ48
      subst l48 y48 z48
      obtain ⟨r48, rfl, N48q, O48, Tg48⟩ := hQ48
      have N48 := Fr.app N43 N48q
      have Zs48 : n0 ≤ T48.heap.size := own_osz O48
      have pre49 : ∀ tgt, Steps p.tables e below (T48.setTop (mkF m 98 #[.val (.int p1), .val (.int p2), .val (.int p3), .val (.int p4), .val (.int kk), .val (.int op), .val (.int t0), .val (.int t1), .val (.int t2), .val (.ref b6), .unset, .unset, .unset, .unset] [])) tgt → Steps p.tables e below (s₁.setTop (entryFrame m #[(.int p1), (.int p2), (.int p3), (.int p4)] maxLocals)) tgt := fun tgt kt_ => by
        refine pre39 _ ?_
        show Steps p.tables e below (T25.setTop (mkF m 84 #[.val (.int p1), .val (.int p2), .val (.int p3), .val (.int p4), .val (.int kk), .val (.int op), .val (.int t0), .val (.int t1), .val (.int t2), .val (.ref b6), .unset, .unset, .unset, .unset] [(.int (2 : Int32)), (.int kk)])) _
        refine XS.icmpNo X25.here hx rfl (hb hby at_84) rfl (tlt hc84_40).2.2.2 ?_
        show Steps p.tables e below (T25.setTop (mkF m 87 #[.val (.int p1), .val (.int p2), .val (.int p3), .val (.int p4), .val (.int kk), .val (.int op), .val (.int t0), .val (.int t1), .val (.int t2), .val (.ref b6), .unset, .unset, .unset, .unset] [])) _
        refine XS.aload X25.here hx rfl (hb hby at_87) rfl rfl ?_
        show Steps p.tables e below (T25.setTop (mkF m 89 #[.val (.int p1), .val (.int p2), .val (.int p3), .val (.int p4), .val (.int kk), .val (.int op), .val (.int t0), .val (.int t1), .val (.int t2), .val (.ref b6), .unset, .unset, .unset, .unset] [(.ref b6)])) _
        refine XS.iload X25.here hx rfl (hb hby at_89) rfl ?_
        show Steps p.tables e below (T25.setTop (mkF m 91 #[.val (.int p1), .val (.int p2), .val (.int p3), .val (.int p4), .val (.int kk), .val (.int op), .val (.int t0), .val (.int t1), .val (.int t2), .val (.ref b6), .unset, .unset, .unset, .unset] [(.int t2), (.ref b6)])) _
        refine st43 _ ?_
        show Steps p.tables e below (T43.setTop (mkF m 94 #[.val (.int p1), .val (.int p2), .val (.int p3), .val (.int p4), .val (.int kk), .val (.int op), .val (.int t0), .val (.int t1), .val (.int t2), .val (.ref b6), .unset, .unset, .unset, .unset] [(.ref bx43), (.ref b6)])) _
        refine st48.trans ?_
        show Steps p.tables e below (T48.setTop (mkF m 97 #[.val (.int p1), .val (.int p2), .val (.int p3), .val (.int p4), .val (.int kk), .val (.int op), .val (.int t0), .val (.int t1), .val (.int t2), .val (.ref b6), .unset, .unset, .unset, .unset] [(.int r48)])) _
        refine XS.pop X48.here hx rfl (hb hby at_97) rfl rfl ?_
        show Steps p.tables e below (T48.setTop (mkF m 98 #[.val (.int p1), .val (.int p2), .val (.int p3), .val (.int p4), .val (.int kk), .val (.int op), .val (.int t0), .val (.int t1), .val (.int t2), .val (.ref b6), .unset, .unset, .unset, .unset] [])) _
        exact kt_
      exact ⟨_, _, X48.more (by decide) (by decide), N48, Zs48, O48, (by rw [decide_eq_true hc84_40]; exact Tg48), pre49⟩
    ·
      have pre50 : ∀ tgt, Steps p.tables e below (T25.setTop (mkF m 98 #[.val (.int p1), .val (.int p2), .val (.int p3), .val (.int p4), .val (.int kk), .val (.int op), .val (.int t0), .val (.int t1), .val (.int t2), .val (.ref b6), .unset, .unset, .unset, .unset] [])) tgt → Steps p.tables e below (s₁.setTop (entryFrame m #[(.int p1), (.int p2), (.int p3), (.int p4)] maxLocals)) tgt := fun tgt kt_ => by
        refine pre39 _ ?_
        show Steps p.tables e below (T25.setTop (mkF m 84 #[.val (.int p1), .val (.int p2), .val (.int p3), .val (.int p4), .val (.int kk), .val (.int op), .val (.int t0), .val (.int t1), .val (.int t2), .val (.ref b6), .unset, .unset, .unset, .unset] [(.int (2 : Int32)), (.int kk)])) _
        refine XS.icmpYes X25.here hx rfl (pc0 := 84) (pc' := 98) rfl (hb hby at_84) rfl (flt hc84_40).2.2.2 (by decide) (by decide) ?_
        show Steps p.tables e below (T25.setTop (mkF m 98 #[.val (.int p1), .val (.int p2), .val (.int p3), .val (.int p4), .val (.int kk), .val (.int op), .val (.int t0), .val (.int t1), .val (.int t2), .val (.ref b6), .unset, .unset, .unset, .unset] [])) _
        exact kt_
      exact ⟨_, _, X25.more (by decide) (by decide), N25, Zs25, Oj1, (by rw [decide_eq_false hc84_40]; exact Tg.congr Tj1 (Nat.le_succ _) (fun j _ => own_adF (M := (own_ad (decide ((1 : Int32) < kk)) (t1 + (1 : Int32)) (own_ad (decide ((0 : Int32) < kk)) (t0 + (1 : Int32)) (fun _ => false)))) j)), pre50⟩
  have pre52 : ∀ tgt, Steps p.tables e below (T38.setTop (mkF m 100 #[.val (.int p1), .val (.int p2), .val (.int p3), .val (.int p4), .val (.int kk), .val (.int op), .val (.int t0), .val (.int t1), .val (.int t2), .val (.ref b6), .unset, .unset, .unset, .unset] [(.int kk)])) tgt → Steps p.tables e below (s₁.setTop (entryFrame m #[(.int p1), (.int p2), (.int p3), (.int p4)] maxLocals)) tgt := fun tgt kt_ => by
    refine pre38 _ ?_
    show Steps p.tables e below (T38.setTop (mkF m 98 #[.val (.int p1), .val (.int p2), .val (.int p3), .val (.int p4), .val (.int kk), .val (.int op), .val (.int t0), .val (.int t1), .val (.int t2), .val (.ref b6), .unset, .unset, .unset, .unset] [])) _
    refine XS.iload X38.here hx rfl (hb hby at_98) rfl ?_
    show Steps p.tables e below (T38.setTop (mkF m 100 #[.val (.int p1), .val (.int p2), .val (.int p3), .val (.int p4), .val (.int kk), .val (.int op), .val (.int t0), .val (.int t1), .val (.int t2), .val (.ref b6), .unset, .unset, .unset, .unset] [(.int kk)])) _
    exact kt_
  have pre53 : ∀ tgt, Steps p.tables e below (T38.setTop (mkF m 108 #[.val (.int p1), .val (.int p2), .val (.int p3), .val (.int p4), .val (.int kk), .val (.int op), .val (.int t0), .val (.int t1), .val (.int t2), .val (.ref b6), .unset, .unset, .unset, .unset] [(.int (if (0 : Int32) < kk then (1 : Int32) else (0 : Int32)))])) tgt → Steps p.tables e below (s₁.setTop (entryFrame m #[(.int p1), (.int p2), (.int p3), (.int p4)] maxLocals)) tgt := fun tgt kt_ => by
    refine pre52 _ ?_
    show Steps p.tables e below (T38.setTop (mkF m 100 #[.val (.int p1), .val (.int p2), .val (.int p3), .val (.int p4), .val (.int kk), .val (.int op), .val (.int t0), .val (.int t1), .val (.int t2), .val (.ref b6), .unset, .unset, .unset, .unset] [(.int kk)])) _
    rcases Decidable.em ((0 : Int32) < kk) with hj100_51 | hj100_51
    ·
      refine XS.ifNo X38.here hx rfl (hb hby at_100) rfl ((if0 _ _).trans (tlt hj100_51).2.2.2) ?_
      show Steps p.tables e below (T38.setTop (mkF m 103 #[.val (.int p1), .val (.int p2), .val (.int p3), .val (.int p4), .val (.int kk), .val (.int op), .val (.int t0), .val (.int t1), .val (.int t2), .val (.ref b6), .unset, .unset, .unset, .unset] [])) _
      refine XS.iconst X38.here hx rfl (hb hby at_103) ?_
      show Steps p.tables e below (T38.setTop (mkF m 104 #[.val (.int p1), .val (.int p2), .val (.int p3), .val (.int p4), .val (.int kk), .val (.int op), .val (.int t0), .val (.int t1), .val (.int t2), .val (.ref b6), .unset, .unset, .unset, .unset] [(.int (1 : Int32))])) _
      refine XS.goto X38.here hx rfl (pc0 := 104) (pc' := 108) rfl (hb hby at_104) (by decide) (by decide) ?_
      show Steps p.tables e below (T38.setTop (mkF m 108 #[.val (.int p1), .val (.int p2), .val (.int p3), .val (.int p4), .val (.int kk), .val (.int op), .val (.int t0), .val (.int t1), .val (.int t2), .val (.ref b6), .unset, .unset, .unset, .unset] [(.int (1 : Int32))])) _
      simp only [if_pos hj100_51] at kt_
      exact kt_
    ·
      refine XS.ifYes X38.here hx rfl (pc0 := 100) (pc' := 107) rfl (hb hby at_100) rfl ((if0 _ _).trans (flt hj100_51).2.2.2) (by decide) (by decide) ?_
      show Steps p.tables e below (T38.setTop (mkF m 107 #[.val (.int p1), .val (.int p2), .val (.int p3), .val (.int p4), .val (.int kk), .val (.int op), .val (.int t0), .val (.int t1), .val (.int t2), .val (.ref b6), .unset, .unset, .unset, .unset] [])) _
      refine XS.iconst X38.here hx rfl (hb hby at_107) ?_
      show Steps p.tables e below (T38.setTop (mkF m 108 #[.val (.int p1), .val (.int p2), .val (.int p3), .val (.int p4), .val (.int kk), .val (.int op), .val (.int t0), .val (.int t1), .val (.int t2), .val (.ref b6), .unset, .unset, .unset, .unset] [(.int (0 : Int32))])) _
      simp only [if_neg hj100_51] at kt_
      exact kt_
  obtain ⟨f0, hf0⟩ : ∃ z, z = (if (0 : Int32) < kk then (1 : Int32) else (0 : Int32)) := ⟨_, rfl⟩
  rw [← hf0] at pre53
  have pre55 : ∀ tgt, Steps p.tables e below (T38.setTop (mkF m 113 #[.val (.int p1), .val (.int p2), .val (.int p3), .val (.int p4), .val (.int kk), .val (.int op), .val (.int t0), .val (.int t1), .val (.int t2), .val (.ref b6), .val (.int f0), .unset, .unset, .unset] [(.int (1 : Int32)), (.int kk)])) tgt → Steps p.tables e below (s₁.setTop (entryFrame m #[(.int p1), (.int p2), (.int p3), (.int p4)] maxLocals)) tgt := fun tgt kt_ => by
    refine pre53 _ ?_
    show Steps p.tables e below (T38.setTop (mkF m 108 #[.val (.int p1), .val (.int p2), .val (.int p3), .val (.int p4), .val (.int kk), .val (.int op), .val (.int t0), .val (.int t1), .val (.int t2), .val (.ref b6), .unset, .unset, .unset, .unset] [(.int f0)])) _
    refine XS.istore X38.here hx rfl (hb hby at_108) rfl (l' := #[.val (.int p1), .val (.int p2), .val (.int p3), .val (.int p4), .val (.int kk), .val (.int op), .val (.int t0), .val (.int t1), .val (.int t2), .val (.ref b6), .val (.int f0), .unset, .unset, .unset]) rfl ?_
    show Steps p.tables e below (T38.setTop (mkF m 110 #[.val (.int p1), .val (.int p2), .val (.int p3), .val (.int p4), .val (.int kk), .val (.int op), .val (.int t0), .val (.int t1), .val (.int t2), .val (.ref b6), .val (.int f0), .unset, .unset, .unset] [])) _
    refine XS.iload X38.here hx rfl (hb hby at_110) rfl ?_
    show Steps p.tables e below (T38.setTop (mkF m 112 #[.val (.int p1), .val (.int p2), .val (.int p3), .val (.int p4), .val (.int kk), .val (.int op), .val (.int t0), .val (.int t1), .val (.int t2), .val (.ref b6), .val (.int f0), .unset, .unset, .unset] [(.int kk)])) _
    refine XS.iconst X38.here hx rfl (hb hby at_112) ?_
    show Steps p.tables e below (T38.setTop (mkF m 113 #[.val (.int p1), .val (.int p2), .val (.int p3), .val (.int p4), .val (.int kk), .val (.int op), .val (.int t0), .val (.int t1), .val (.int t2), .val (.ref b6), .val (.int f0), .unset, .unset, .unset] [(.int (1 : Int32)), (.int kk)])) _
    exact kt_
  have pre56 : ∀ tgt, Steps p.tables e below (T38.setTop (mkF m 121 #[.val (.int p1), .val (.int p2), .val (.int p3), .val (.int p4), .val (.int kk), .val (.int op), .val (.int t0), .val (.int t1), .val (.int t2), .val (.ref b6), .val (.int f0), .unset, .unset, .unset] [(.int (if (1 : Int32) < kk then (1 : Int32) else (0 : Int32)))])) tgt → Steps p.tables e below (s₁.setTop (entryFrame m #[(.int p1), (.int p2), (.int p3), (.int p4)] maxLocals)) tgt := fun tgt kt_ => by
    refine pre55 _ ?_
    show Steps p.tables e below (T38.setTop (mkF m 113 #[.val (.int p1), .val (.int p2), .val (.int p3), .val (.int p4), .val (.int kk), .val (.int op), .val (.int t0), .val (.int t1), .val (.int t2), .val (.ref b6), .val (.int f0), .unset, .unset, .unset] [(.int (1 : Int32)), (.int kk)])) _
    rcases Decidable.em ((1 : Int32) < kk) with hj113_54 | hj113_54
    ·
      refine XS.icmpNo X38.here hx rfl (hb hby at_113) rfl (tlt hj113_54).2.2.2 ?_
      show Steps p.tables e below (T38.setTop (mkF m 116 #[.val (.int p1), .val (.int p2), .val (.int p3), .val (.int p4), .val (.int kk), .val (.int op), .val (.int t0), .val (.int t1), .val (.int t2), .val (.ref b6), .val (.int f0), .unset, .unset, .unset] [])) _
      refine XS.iconst X38.here hx rfl (hb hby at_116) ?_
      show Steps p.tables e below (T38.setTop (mkF m 117 #[.val (.int p1), .val (.int p2), .val (.int p3), .val (.int p4), .val (.int kk), .val (.int op), .val (.int t0), .val (.int t1), .val (.int t2), .val (.ref b6), .val (.int f0), .unset, .unset, .unset] [(.int (1 : Int32))])) _
      refine XS.goto X38.here hx rfl (pc0 := 117) (pc' := 121) rfl (hb hby at_117) (by decide) (by decide) ?_
      show Steps p.tables e below (T38.setTop (mkF m 121 #[.val (.int p1), .val (.int p2), .val (.int p3), .val (.int p4), .val (.int kk), .val (.int op), .val (.int t0), .val (.int t1), .val (.int t2), .val (.ref b6), .val (.int f0), .unset, .unset, .unset] [(.int (1 : Int32))])) _
      simp only [if_pos hj113_54] at kt_
      exact kt_
    ·
      refine XS.icmpYes X38.here hx rfl (pc0 := 113) (pc' := 120) rfl (hb hby at_113) rfl (flt hj113_54).2.2.2 (by decide) (by decide) ?_
      show Steps p.tables e below (T38.setTop (mkF m 120 #[.val (.int p1), .val (.int p2), .val (.int p3), .val (.int p4), .val (.int kk), .val (.int op), .val (.int t0), .val (.int t1), .val (.int t2), .val (.ref b6), .val (.int f0), .unset, .unset, .unset] [])) _
      refine XS.iconst X38.here hx rfl (hb hby at_120) ?_
      show Steps p.tables e below (T38.setTop (mkF m 121 #[.val (.int p1), .val (.int p2), .val (.int p3), .val (.int p4), .val (.int kk), .val (.int op), .val (.int t0), .val (.int t1), .val (.int t2), .val (.ref b6), .val (.int f0), .unset, .unset, .unset] [(.int (0 : Int32))])) _
      simp only [if_neg hj113_54] at kt_
      exact kt_
  obtain ⟨f1, hf1⟩ : ∃ z, z = (if (1 : Int32) < kk then (1 : Int32) else (0 : Int32)) := ⟨_, rfl⟩
  rw [← hf1] at pre56
  have pre58 : ∀ tgt, Steps p.tables e below (T38.setTop (mkF m 126 #[.val (.int p1), .val (.int p2), .val (.int p3), .val (.int p4), .val (.int kk), .val (.int op), .val (.int t0), .val (.int t1), .val (.int t2), .val (.ref b6), .val (.int f0), .val (.int f1), .unset, .unset] [(.int (2 : Int32)), (.int kk)])) tgt → Steps p.tables e below (s₁.setTop (entryFrame m #[(.int p1), (.int p2), (.int p3), (.int p4)] maxLocals)) tgt := fun tgt kt_ => by
    refine pre56 _ ?_
    show Steps p.tables e below (T38.setTop (mkF m 121 #[.val (.int p1), .val (.int p2), .val (.int p3), .val (.int p4), .val (.int kk), .val (.int op), .val (.int t0), .val (.int t1), .val (.int t2), .val (.ref b6), .val (.int f0), .unset, .unset, .unset] [(.int f1)])) _
    refine XS.istore X38.here hx rfl (hb hby at_121) rfl (l' := #[.val (.int p1), .val (.int p2), .val (.int p3), .val (.int p4), .val (.int kk), .val (.int op), .val (.int t0), .val (.int t1), .val (.int t2), .val (.ref b6), .val (.int f0), .val (.int f1), .unset, .unset]) rfl ?_
    show Steps p.tables e below (T38.setTop (mkF m 123 #[.val (.int p1), .val (.int p2), .val (.int p3), .val (.int p4), .val (.int kk), .val (.int op), .val (.int t0), .val (.int t1), .val (.int t2), .val (.ref b6), .val (.int f0), .val (.int f1), .unset, .unset] [])) _
    refine XS.iload X38.here hx rfl (hb hby at_123) rfl ?_
    show Steps p.tables e below (T38.setTop (mkF m 125 #[.val (.int p1), .val (.int p2), .val (.int p3), .val (.int p4), .val (.int kk), .val (.int op), .val (.int t0), .val (.int t1), .val (.int t2), .val (.ref b6), .val (.int f0), .val (.int f1), .unset, .unset] [(.int kk)])) _
    refine XS.iconst X38.here hx rfl (hb hby at_125) ?_
    show Steps p.tables e below (T38.setTop (mkF m 126 #[.val (.int p1), .val (.int p2), .val (.int p3), .val (.int p4), .val (.int kk), .val (.int op), .val (.int t0), .val (.int t1), .val (.int t2), .val (.ref b6), .val (.int f0), .val (.int f1), .unset, .unset] [(.int (2 : Int32)), (.int kk)])) _
    exact kt_
  have pre59 : ∀ tgt, Steps p.tables e below (T38.setTop (mkF m 134 #[.val (.int p1), .val (.int p2), .val (.int p3), .val (.int p4), .val (.int kk), .val (.int op), .val (.int t0), .val (.int t1), .val (.int t2), .val (.ref b6), .val (.int f0), .val (.int f1), .unset, .unset] [(.int (if (2 : Int32) < kk then (1 : Int32) else (0 : Int32)))])) tgt → Steps p.tables e below (s₁.setTop (entryFrame m #[(.int p1), (.int p2), (.int p3), (.int p4)] maxLocals)) tgt := fun tgt kt_ => by
    refine pre58 _ ?_
    show Steps p.tables e below (T38.setTop (mkF m 126 #[.val (.int p1), .val (.int p2), .val (.int p3), .val (.int p4), .val (.int kk), .val (.int op), .val (.int t0), .val (.int t1), .val (.int t2), .val (.ref b6), .val (.int f0), .val (.int f1), .unset, .unset] [(.int (2 : Int32)), (.int kk)])) _
    rcases Decidable.em ((2 : Int32) < kk) with hj126_57 | hj126_57
    ·
      refine XS.icmpNo X38.here hx rfl (hb hby at_126) rfl (tlt hj126_57).2.2.2 ?_
      show Steps p.tables e below (T38.setTop (mkF m 129 #[.val (.int p1), .val (.int p2), .val (.int p3), .val (.int p4), .val (.int kk), .val (.int op), .val (.int t0), .val (.int t1), .val (.int t2), .val (.ref b6), .val (.int f0), .val (.int f1), .unset, .unset] [])) _
      refine XS.iconst X38.here hx rfl (hb hby at_129) ?_
      show Steps p.tables e below (T38.setTop (mkF m 130 #[.val (.int p1), .val (.int p2), .val (.int p3), .val (.int p4), .val (.int kk), .val (.int op), .val (.int t0), .val (.int t1), .val (.int t2), .val (.ref b6), .val (.int f0), .val (.int f1), .unset, .unset] [(.int (1 : Int32))])) _
      refine XS.goto X38.here hx rfl (pc0 := 130) (pc' := 134) rfl (hb hby at_130) (by decide) (by decide) ?_
      show Steps p.tables e below (T38.setTop (mkF m 134 #[.val (.int p1), .val (.int p2), .val (.int p3), .val (.int p4), .val (.int kk), .val (.int op), .val (.int t0), .val (.int t1), .val (.int t2), .val (.ref b6), .val (.int f0), .val (.int f1), .unset, .unset] [(.int (1 : Int32))])) _
      simp only [if_pos hj126_57] at kt_
      exact kt_
    ·
      refine XS.icmpYes X38.here hx rfl (pc0 := 126) (pc' := 133) rfl (hb hby at_126) rfl (flt hj126_57).2.2.2 (by decide) (by decide) ?_
      show Steps p.tables e below (T38.setTop (mkF m 133 #[.val (.int p1), .val (.int p2), .val (.int p3), .val (.int p4), .val (.int kk), .val (.int op), .val (.int t0), .val (.int t1), .val (.int t2), .val (.ref b6), .val (.int f0), .val (.int f1), .unset, .unset] [])) _
      refine XS.iconst X38.here hx rfl (hb hby at_133) ?_
      show Steps p.tables e below (T38.setTop (mkF m 134 #[.val (.int p1), .val (.int p2), .val (.int p3), .val (.int p4), .val (.int kk), .val (.int op), .val (.int t0), .val (.int t1), .val (.int t2), .val (.ref b6), .val (.int f0), .val (.int f1), .unset, .unset] [(.int (0 : Int32))])) _
      simp only [if_neg hj126_57] at kt_
      exact kt_
  obtain ⟨f2, hf2⟩ : ∃ z, z = (if (2 : Int32) < kk then (1 : Int32) else (0 : Int32)) := ⟨_, rfl⟩
  rw [← hf2] at pre59
  have pre60 : ∀ tgt, Steps p.tables e below (T38.setTop (mkF m 139 #[.val (.int p1), .val (.int p2), .val (.int p3), .val (.int p4), .val (.int kk), .val (.int op), .val (.int t0), .val (.int t1), .val (.int t2), .val (.ref b6), .val (.int f0), .val (.int f1), .val (.int f2), .unset] [(.int (1 : Int32)), (.int op)])) tgt → Steps p.tables e below (s₁.setTop (entryFrame m #[(.int p1), (.int p2), (.int p3), (.int p4)] maxLocals)) tgt := fun tgt kt_ => by
    refine pre59 _ ?_
    show Steps p.tables e below (T38.setTop (mkF m 134 #[.val (.int p1), .val (.int p2), .val (.int p3), .val (.int p4), .val (.int kk), .val (.int op), .val (.int t0), .val (.int t1), .val (.int t2), .val (.ref b6), .val (.int f0), .val (.int f1), .unset, .unset] [(.int f2)])) _
    refine XS.istore X38.here hx rfl (hb hby at_134) rfl (l' := #[.val (.int p1), .val (.int p2), .val (.int p3), .val (.int p4), .val (.int kk), .val (.int op), .val (.int t0), .val (.int t1), .val (.int t2), .val (.ref b6), .val (.int f0), .val (.int f1), .val (.int f2), .unset]) rfl ?_
    show Steps p.tables e below (T38.setTop (mkF m 136 #[.val (.int p1), .val (.int p2), .val (.int p3), .val (.int p4), .val (.int kk), .val (.int op), .val (.int t0), .val (.int t1), .val (.int t2), .val (.ref b6), .val (.int f0), .val (.int f1), .val (.int f2), .unset] [])) _
    refine XS.iload X38.here hx rfl (hb hby at_136) rfl ?_
    show Steps p.tables e below (T38.setTop (mkF m 138 #[.val (.int p1), .val (.int p2), .val (.int p3), .val (.int p4), .val (.int kk), .val (.int op), .val (.int t0), .val (.int t1), .val (.int t2), .val (.ref b6), .val (.int f0), .val (.int f1), .val (.int f2), .unset] [(.int op)])) _
    refine XS.iconst X38.here hx rfl (hb hby at_138) ?_
    show Steps p.tables e below (T38.setTop (mkF m 139 #[.val (.int p1), .val (.int p2), .val (.int p3), .val (.int p4), .val (.int kk), .val (.int op), .val (.int t0), .val (.int t1), .val (.int t2), .val (.ref b6), .val (.int f0), .val (.int f1), .val (.int f2), .unset] [(.int (1 : Int32)), (.int op)])) _
    exact kt_
  rcases Decidable.em (op = (1 : Int32)) with hc139_61 | hc139_61
  ·
    have c62 := SH.ext Oj2.2
    have c63 := SC.ext Oj2.2
    obtain ⟨_, _, ⟨T64, L64, k64, n64⟩, -, X64, ⟨Lc64, hQ64, l64, y64, z64⟩, st64⟩ := Jvm.LawKit.callS X38 hx (y := (⟨"java/lang/Integer", "valueOf", "(I)Ljava/lang/Integer;"⟩ : MethodName)) hown (mvT hZ (hw _ (List.mem_of_getElem? (i := 31) rfl))) (mvT hZ (hw _ (List.mem_of_getElem? (i := 32) rfl))) (mvT hZ (hw _ (List.mem_of_getElem? (i := 33) rfl))) (mvT hZ (hw _ (List.mem_of_getElem? (i := 34) rfl))) (by decide) (backOf (W := 1) (rmVO l Z a0 hw [] t0 ca cc T38.heap n0 Zs38 c62 c63 BX Oj2) hZ (hw _ (List.mem_of_getElem? (i := 34) rfl)) (hw _ (List.mem_of_getElem? (i := 33) rfl)) (by decide) (by decide)) (g := (mkF m 146 #[.val (.int p1), .val (.int p2), .val (.int p3), .val (.int p4), .val (.int kk), .val (.int op), .val (.int t0), .val (.int t1), .val (.int t2), .val (.ref b6), .val (.int f0), .val (.int f1), .val (.int f2), .unset] [(.int t0), (.ref b6)])) rfl (by rw [hml]; rfl) (argsL := [(.int t0)]) (rest := [(.ref b6)]) (lenOf own_pd8 rfl) rfl (by show 2 * 0 + _ ≤ _; exact Nat.le_of_eq rfl) (hb hby at_146) (fun _ _ => ⟨rfl, rfl, (by decide : 7 + 1 ≤ _), (by decide : 51 + 1 ≤ _)⟩)
    dsimp only [Pt.U, Pt.locs, Pt.cells, Pt.slots] at X64 l64 y64 z64 st64 hQ64
    subst l64 y64 z64
    obtain ⟨bx64, rfl, N64q, K64, A64, F64⟩ := hQ64
    have N64 := Fr.app N38 N64q
    have Zs65 : n0 ≤ T64.heap.size := Nat.le_trans Zs38 K64.1
    have O65 := Oj2.keep K64 all0
    have c66 := ((own_tgExa Tj2).keep K64)
    have c67 := (Tj2.keep K64)
    have EX68 := own_tgExa c67
    obtain ⟨cq69, kq69, q69a, q69b, q69c⟩ := isOf hZ rfl c66
    obtain ⟨_, _, ⟨T69, L69, k69, n69⟩, -, X69, ⟨Lc69, hQ69, l69, y69, z69⟩, st69⟩ := X64.virtualBack hx (y := (⟨"com/example/dramatis/dramatis/analysis/RoleGraph$Targets", "remove", "(Ljava/lang/Object;)Z"⟩ : MethodName)) (z := (⟨"com/example/dramatis/dramatis/analysis/RoleGraph$Targets", "remove", "(Ljava/lang/Object;)Z"⟩ : MethodName)) hown (mvT hZ (hw _ (List.mem_of_getElem? (i := 38) rfl))) (mvT hZ (hw _ (List.mem_of_getElem? (i := 39) rfl))) (notFace_of_selects (args := #[]) (mvT hZ (hw _ (List.mem_of_getElem? (i := 41) rfl)))) (mvT hZ (hw _ (List.mem_of_getElem? (i := 41) rfl))) (mvT hZ (hw _ (List.mem_of_getElem? (i := 40) rfl))) (by decide) (backOf (W := 0) (rmRem l Z a0 hw [] b6 bx64 t0 3 (own_ad (decide ((2 : Int32) < kk)) (t2 + (1 : Int32)) (own_ad (decide ((1 : Int32) < kk)) (t1 + (1 : Int32)) (own_ad (decide ((0 : Int32) < kk)) (t0 + (1 : Int32)) (fun _ => false)))) T64.heap n0 Zs65 c67 gf_b6 O65 A64 F64 in_t0 kt_t0 EX68) hZ (hw _ (List.mem_of_getElem? (i := 42) rfl)) (hw _ (List.mem_of_getElem? (i := 2) rfl)) (by decide) (by decide)) q69a q69c (g := (mkF m 149 #[.val (.int p1), .val (.int p2), .val (.int p3), .val (.int p4), .val (.int kk), .val (.int op), .val (.int t0), .val (.int t1), .val (.int t2), .val (.ref b6), .val (.int f0), .val (.int f1), .val (.int f2), .unset] [(.ref bx64), (.ref b6)])) rfl (by rw [hml]; rfl) (Steps.refl _) (argsL := [(.ref bx64)]) (rest := []) (lenOf own_pd6 rfl) rfl (by show 2 * 0 + _ ≤ _; exact Nat.le_of_eq rfl) (hb hby at_149) (fun _ _ => ⟨rfl, rfl, (by decide : 8 + 0 ≤ _), (by decide : 52 + 0 ≤ _)⟩)
    dsimp only [Pt.U, Pt.locs, Pt.cells, Pt.slots] at X69 l69 y69 z69 st69 hQ69
    subst l69 y69 z69
    obtain ⟨r69, rfl, N69q, O69, Tg69⟩ := hQ69
    have N69 := Fr.app N64 N69q
    have Zs69 : n0 ≤ T69.heap.size := own_osz O69
    have pre72 : ∀ tgt, Steps p.tables e below (T69.setTop (mkF m 158 #[.val (.int p1), .val (.int p2), .val (.int p3), .val (.int p4), .val (.int kk), .val (.int op), .val (.int t0), .val (.int t1), .val (.int t2), .val (.ref b6), .val (.int (0 : Int32)), .val (.int f1), .val (.int f2), .unset] [(.int f1)])) tgt → Steps p.tables e below (s₁.setTop (entryFrame m #[(.int p1), (.int p2), (.int p3), (.int p4)] maxLocals)) tgt := fun tgt kt_ => by
      refine pre60 _ ?_
      show Steps p.tables e below (T38.setTop (mkF m 139 #[.val (.int p1), .val (.int p2), .val (.int p3), .val (.int p4), .val (.int kk), .val (.int op), .val (.int t0), .val (.int t1), .val (.int t2), .val (.ref b6), .val (.int f0), .val (.int f1), .val (.int f2), .unset] [(.int (1 : Int32)), (.int op)])) _
      refine XS.icmpNo X38.here hx rfl (hb hby at_139) rfl (teq hc139_61).2 ?_
      show Steps p.tables e below (T38.setTop (mkF m 142 #[.val (.int p1), .val (.int p2), .val (.int p3), .val (.int p4), .val (.int kk), .val (.int op), .val (.int t0), .val (.int t1), .val (.int t2), .val (.ref b6), .val (.int f0), .val (.int f1), .val (.int f2), .unset] [])) _
      refine XS.aload X38.here hx rfl (hb hby at_142) rfl rfl ?_
      show Steps p.tables e below (T38.setTop (mkF m 144 #[.val (.int p1), .val (.int p2), .val (.int p3), .val (.int p4), .val (.int kk), .val (.int op), .val (.int t0), .val (.int t1), .val (.int t2), .val (.ref b6), .val (.int f0), .val (.int f1), .val (.int f2), .unset] [(.ref b6)])) _
      refine XS.iload X38.here hx rfl (hb hby at_144) rfl ?_
      show Steps p.tables e below (T38.setTop (mkF m 146 #[.val (.int p1), .val (.int p2), .val (.int p3), .val (.int p4), .val (.int kk), .val (.int op), .val (.int t0), .val (.int t1), .val (.int t2), .val (.ref b6), .val (.int f0), .val (.int f1), .val (.int f2), .unset] [(.int t0), (.ref b6)])) _
      refine st64 _ ?_
      show Steps p.tables e below (T64.setTop (mkF m 149 #[.val (.int p1), .val (.int p2), .val (.int p3), .val (.int p4), .val (.int kk), .val (.int op), .val (.int t0), .val (.int t1), .val (.int t2), .val (.ref b6), .val (.int f0), .val (.int f1), .val (.int f2), .unset] [(.ref bx64), (.ref b6)])) _
      refine st69.trans ?_
      show Steps p.tables e below (T69.setTop (mkF m 152 #[.val (.int p1), .val (.int p2), .val (.int p3), .val (.int p4), .val (.int kk), .val (.int op), .val (.int t0), .val (.int t1), .val (.int t2), .val (.ref b6), .val (.int f0), .val (.int f1), .val (.int f2), .unset] [(.int r69)])) _
      refine XS.pop X69.here hx rfl (hb hby at_152) rfl rfl ?_
      show Steps p.tables e below (T69.setTop (mkF m 153 #[.val (.int p1), .val (.int p2), .val (.int p3), .val (.int p4), .val (.int kk), .val (.int op), .val (.int t0), .val (.int t1), .val (.int t2), .val (.ref b6), .val (.int f0), .val (.int f1), .val (.int f2), .unset] [])) _
      refine XS.iconst X69.here hx rfl (hb hby at_153) ?_
      show Steps p.tables e below (T69.setTop (mkF m 154 #[.val (.int p1), .val (.int p2), .val (.int p3), .val (.int p4), .val (.int kk), .val (.int op), .val (.int t0), .val (.int t1), .val (.int t2), .val (.ref b6), .val (.int f0), .val (.int f1), .val (.int f2), .unset] [(.int (0 : Int32))])) _
      refine XS.istore X69.here hx rfl (hb hby at_154) rfl (l' := #[.val (.int p1), .val (.int p2), .val (.int p3), .val (.int p4), .val (.int kk), .val (.int op), .val (.int t0), .val (.int t1), .val (.int t2), .val (.ref b6), .val (.int (0 : Int32)), .val (.int f1), .val (.int f2), .unset]) rfl ?_
      show Steps p.tables e below (T69.setTop (mkF m 156 #[.val (.int p1), .val (.int p2), .val (.int p3), .val (.int p4), .val (.int kk), .val (.int op), .val (.int t0), .val (.int t1), .val (.int t2), .val (.ref b6), .val (.int (0 : Int32)), .val (.int f1), .val (.int f2), .unset] [])) _
      refine XS.iload X69.here hx rfl (hb hby at_156) rfl ?_
      show Steps p.tables e below (T69.setTop (mkF m 158 #[.val (.int p1), .val (.int p2), .val (.int p3), .val (.int p4), .val (.int kk), .val (.int op), .val (.int t0), .val (.int t1), .val (.int t2), .val (.ref b6), .val (.int (0 : Int32)), .val (.int f1), .val (.int f2), .unset] [(.int f1)])) _
      exact kt_
    have pre73 : ∀ tgt, Steps p.tables e below (T69.setTop (mkF m 173 #[.val (.int p1), .val (.int p2), .val (.int p3), .val (.int p4), .val (.int kk), .val (.int op), .val (.int t0), .val (.int t1), .val (.int t2), .val (.ref b6), .val (.int (0 : Int32)), .val (.int f1), .val (.int f2), .unset] [(.int (if f1 = (0 : Int32) then (0 : Int32) else (if t1 = t0 then (0 : Int32) else (1 : Int32))))])) tgt → Steps p.tables e below (s₁.setTop (entryFrame m #[(.int p1), (.int p2), (.int p3), (.int p4)] maxLocals)) tgt := fun tgt kt_ => by
      refine pre72 _ ?_
      show Steps p.tables e below (T69.setTop (mkF m 158 #[.val (.int p1), .val (.int p2), .val (.int p3), .val (.int p4), .val (.int kk), .val (.int op), .val (.int t0), .val (.int t1), .val (.int t2), .val (.ref b6), .val (.int (0 : Int32)), .val (.int f1), .val (.int f2), .unset] [(.int f1)])) _
      rcases Decidable.em (f1 = (0 : Int32)) with hj158_70 | hj158_70
      ·
        refine XS.ifYes X69.here hx rfl (pc0 := 158) (pc' := 172) rfl (hb hby at_158) rfl ((if0 _ _).trans (teq hj158_70).1) (by decide) (by decide) ?_
        show Steps p.tables e below (T69.setTop (mkF m 172 #[.val (.int p1), .val (.int p2), .val (.int p3), .val (.int p4), .val (.int kk), .val (.int op), .val (.int t0), .val (.int t1), .val (.int t2), .val (.ref b6), .val (.int (0 : Int32)), .val (.int f1), .val (.int f2), .unset] [])) _
        refine XS.iconst X69.here hx rfl (hb hby at_172) ?_
        show Steps p.tables e below (T69.setTop (mkF m 173 #[.val (.int p1), .val (.int p2), .val (.int p3), .val (.int p4), .val (.int kk), .val (.int op), .val (.int t0), .val (.int t1), .val (.int t2), .val (.ref b6), .val (.int (0 : Int32)), .val (.int f1), .val (.int f2), .unset] [(.int (0 : Int32))])) _
        simp only [if_pos hj158_70] at kt_
        exact kt_
      ·
        refine XS.ifNo X69.here hx rfl (hb hby at_158) rfl ((if0 _ _).trans (feq hj158_70).1) ?_
        show Steps p.tables e below (T69.setTop (mkF m 161 #[.val (.int p1), .val (.int p2), .val (.int p3), .val (.int p4), .val (.int kk), .val (.int op), .val (.int t0), .val (.int t1), .val (.int t2), .val (.ref b6), .val (.int (0 : Int32)), .val (.int f1), .val (.int f2), .unset] [])) _
        refine XS.iload X69.here hx rfl (hb hby at_161) rfl ?_
        show Steps p.tables e below (T69.setTop (mkF m 163 #[.val (.int p1), .val (.int p2), .val (.int p3), .val (.int p4), .val (.int kk), .val (.int op), .val (.int t0), .val (.int t1), .val (.int t2), .val (.ref b6), .val (.int (0 : Int32)), .val (.int f1), .val (.int f2), .unset] [(.int t1)])) _
        refine XS.iload X69.here hx rfl (hb hby at_163) rfl ?_
        show Steps p.tables e below (T69.setTop (mkF m 165 #[.val (.int p1), .val (.int p2), .val (.int p3), .val (.int p4), .val (.int kk), .val (.int op), .val (.int t0), .val (.int t1), .val (.int t2), .val (.ref b6), .val (.int (0 : Int32)), .val (.int f1), .val (.int f2), .unset] [(.int t0), (.int t1)])) _
        rcases Decidable.em (t1 = t0) with hj165_71 | hj165_71
        ·
          refine XS.icmpYes X69.here hx rfl (pc0 := 165) (pc' := 172) rfl (hb hby at_165) rfl (teq hj165_71).1 (by decide) (by decide) ?_
          show Steps p.tables e below (T69.setTop (mkF m 172 #[.val (.int p1), .val (.int p2), .val (.int p3), .val (.int p4), .val (.int kk), .val (.int op), .val (.int t0), .val (.int t1), .val (.int t2), .val (.ref b6), .val (.int (0 : Int32)), .val (.int f1), .val (.int f2), .unset] [])) _
          refine XS.iconst X69.here hx rfl (hb hby at_172) ?_
          show Steps p.tables e below (T69.setTop (mkF m 173 #[.val (.int p1), .val (.int p2), .val (.int p3), .val (.int p4), .val (.int kk), .val (.int op), .val (.int t0), .val (.int t1), .val (.int t2), .val (.ref b6), .val (.int (0 : Int32)), .val (.int f1), .val (.int f2), .unset] [(.int (0 : Int32))])) _
          simp only [if_neg hj158_70, if_pos hj165_71] at kt_
          exact kt_
        ·
          refine XS.icmpNo X69.here hx rfl (hb hby at_165) rfl (feq hj165_71).1 ?_
          show Steps p.tables e below (T69.setTop (mkF m 168 #[.val (.int p1), .val (.int p2), .val (.int p3), .val (.int p4), .val (.int kk), .val (.int op), .val (.int t0), .val (.int t1), .val (.int t2), .val (.ref b6), .val (.int (0 : Int32)), .val (.int f1), .val (.int f2), .unset] [])) _
          refine XS.iconst X69.here hx rfl (hb hby at_168) ?_
          show Steps p.tables e below (T69.setTop (mkF m 169 #[.val (.int p1), .val (.int p2), .val (.int p3), .val (.int p4), .val (.int kk), .val (.int op), .val (.int t0), .val (.int t1), .val (.int t2), .val (.ref b6), .val (.int (0 : Int32)), .val (.int f1), .val (.int f2), .unset] [(.int (1 : Int32))])) _
          refine XS.goto X69.here hx rfl (pc0 := 169) (pc' := 173) rfl (hb hby at_169) (by decide) (by decide) ?_
          show Steps p.tables e below (T69.setTop (mkF m 173 #[.val (.int p1), .val (.int p2), .val (.int p3), .val (.int p4), .val (.int kk), .val (.int op), .val (.int t0), .val (.int t1), .val (.int t2), .val (.ref b6), .val (.int (0 : Int32)), .val (.int f1), .val (.int f2), .unset] [(.int (1 : Int32))])) _
          simp only [if_neg hj158_70, if_neg hj165_71] at kt_
          exact kt_
    obtain ⟨g1, hg1⟩ : ∃ z, z = (if f1 = (0 : Int32) then (0 : Int32) else (if t1 = t0 then (0 : Int32) else (1 : Int32))) := ⟨_, rfl⟩
    rw [← hg1] at pre73
    have pre76 : ∀ tgt, Steps p.tables e below (T69.setTop (mkF m 177 #[.val (.int p1), .val (.int p2), .val (.int p3), .val (.int p4), .val (.int kk), .val (.int op), .val (.int t0), .val (.int t1), .val (.int t2), .val (.ref b6), .val (.int (0 : Int32)), .val (.int g1), .val (.int f2), .unset] [(.int f2)])) tgt → Steps p.tables e below (s₁.setTop (entryFrame m #[(.int p1), (.int p2), (.int p3), (.int p4)] maxLocals)) tgt := fun tgt kt_ => by
      refine pre73 _ ?_
      show Steps p.tables e below (T69.setTop (mkF m 173 #[.val (.int p1), .val (.int p2), .val (.int p3), .val (.int p4), .val (.int kk), .val (.int op), .val (.int t0), .val (.int t1), .val (.int t2), .val (.ref b6), .val (.int (0 : Int32)), .val (.int f1), .val (.int f2), .unset] [(.int g1)])) _
      refine XS.istore X69.here hx rfl (hb hby at_173) rfl (l' := #[.val (.int p1), .val (.int p2), .val (.int p3), .val (.int p4), .val (.int kk), .val (.int op), .val (.int t0), .val (.int t1), .val (.int t2), .val (.ref b6), .val (.int (0 : Int32)), .val (.int g1), .val (.int f2), .unset]) rfl ?_
      show Steps p.tables e below (T69.setTop (mkF m 175 #[.val (.int p1), .val (.int p2), .val (.int p3), .val (.int p4), .val (.int kk), .val (.int op), .val (.int t0), .val (.int t1), .val (.int t2), .val (.ref b6), .val (.int (0 : Int32)), .val (.int g1), .val (.int f2), .unset] [])) _
      refine XS.iload X69.here hx rfl (hb hby at_175) rfl ?_
      show Steps p.tables e below (T69.setTop (mkF m 177 #[.val (.int p1), .val (.int p2), .val (.int p3), .val (.int p4), .val (.int kk), .val (.int op), .val (.int t0), .val (.int t1), .val (.int t2), .val (.ref b6), .val (.int (0 : Int32)), .val (.int g1), .val (.int f2), .unset] [(.int f2)])) _
      exact kt_
    have pre77 : ∀ tgt, Steps p.tables e below (T69.setTop (mkF m 192 #[.val (.int p1), .val (.int p2), .val (.int p3), .val (.int p4), .val (.int kk), .val (.int op), .val (.int t0), .val (.int t1), .val (.int t2), .val (.ref b6), .val (.int (0 : Int32)), .val (.int g1), .val (.int f2), .unset] [(.int (if f2 = (0 : Int32) then (0 : Int32) else (if t2 = t0 then (0 : Int32) else (1 : Int32))))])) tgt → Steps p.tables e below (s₁.setTop (entryFrame m #[(.int p1), (.int p2), (.int p3), (.int p4)] maxLocals)) tgt := fun tgt kt_ => by
      refine pre76 _ ?_
      show Steps p.tables e below (T69.setTop (mkF m 177 #[.val (.int p1), .val (.int p2), .val (.int p3), .val (.int p4), .val (.int kk), .val (.int op), .val (.int t0), .val (.int t1), .val (.int t2), .val (.ref b6), .val (.int (0 : Int32)), .val (.int g1), .val (.int f2), .unset] [(.int f2)])) _
      rcases Decidable.em (f2 = (0 : Int32)) with hj177_74 | hj177_74
      ·
        refine XS.ifYes X69.here hx rfl (pc0 := 177) (pc' := 191) rfl (hb hby at_177) rfl ((if0 _ _).trans (teq hj177_74).1) (by decide) (by decide) ?_
        show Steps p.tables e below (T69.setTop (mkF m 191 #[.val (.int p1), .val (.int p2), .val (.int p3), .val (.int p4), .val (.int kk), .val (.int op), .val (.int t0), .val (.int t1), .val (.int t2), .val (.ref b6), .val (.int (0 : Int32)), .val (.int g1), .val (.int f2), .unset] [])) _
        refine XS.iconst X69.here hx rfl (hb hby at_191) ?_
        show Steps p.tables e below (T69.setTop (mkF m 192 #[.val (.int p1), .val (.int p2), .val (.int p3), .val (.int p4), .val (.int kk), .val (.int op), .val (.int t0), .val (.int t1), .val (.int t2), .val (.ref b6), .val (.int (0 : Int32)), .val (.int g1), .val (.int f2), .unset] [(.int (0 : Int32))])) _
        simp only [if_pos hj177_74] at kt_
        exact kt_
      ·
        refine XS.ifNo X69.here hx rfl (hb hby at_177) rfl ((if0 _ _).trans (feq hj177_74).1) ?_
        show Steps p.tables e below (T69.setTop (mkF m 180 #[.val (.int p1), .val (.int p2), .val (.int p3), .val (.int p4), .val (.int kk), .val (.int op), .val (.int t0), .val (.int t1), .val (.int t2), .val (.ref b6), .val (.int (0 : Int32)), .val (.int g1), .val (.int f2), .unset] [])) _
        refine XS.iload X69.here hx rfl (hb hby at_180) rfl ?_
        show Steps p.tables e below (T69.setTop (mkF m 182 #[.val (.int p1), .val (.int p2), .val (.int p3), .val (.int p4), .val (.int kk), .val (.int op), .val (.int t0), .val (.int t1), .val (.int t2), .val (.ref b6), .val (.int (0 : Int32)), .val (.int g1), .val (.int f2), .unset] [(.int t2)])) _
        refine XS.iload X69.here hx rfl (hb hby at_182) rfl ?_
        show Steps p.tables e below (T69.setTop (mkF m 184 #[.val (.int p1), .val (.int p2), .val (.int p3), .val (.int p4), .val (.int kk), .val (.int op), .val (.int t0), .val (.int t1), .val (.int t2), .val (.ref b6), .val (.int (0 : Int32)), .val (.int g1), .val (.int f2), .unset] [(.int t0), (.int t2)])) _
        rcases Decidable.em (t2 = t0) with hj184_75 | hj184_75
        ·
          refine XS.icmpYes X69.here hx rfl (pc0 := 184) (pc' := 191) rfl (hb hby at_184) rfl (teq hj184_75).1 (by decide) (by decide) ?_
          show Steps p.tables e below (T69.setTop (mkF m 191 #[.val (.int p1), .val (.int p2), .val (.int p3), .val (.int p4), .val (.int kk), .val (.int op), .val (.int t0), .val (.int t1), .val (.int t2), .val (.ref b6), .val (.int (0 : Int32)), .val (.int g1), .val (.int f2), .unset] [])) _
          refine XS.iconst X69.here hx rfl (hb hby at_191) ?_
          show Steps p.tables e below (T69.setTop (mkF m 192 #[.val (.int p1), .val (.int p2), .val (.int p3), .val (.int p4), .val (.int kk), .val (.int op), .val (.int t0), .val (.int t1), .val (.int t2), .val (.ref b6), .val (.int (0 : Int32)), .val (.int g1), .val (.int f2), .unset] [(.int (0 : Int32))])) _
          simp only [if_neg hj177_74, if_pos hj184_75] at kt_
          exact kt_
        ·
          refine XS.icmpNo X69.here hx rfl (hb hby at_184) rfl (feq hj184_75).1 ?_
          show Steps p.tables e below (T69.setTop (mkF m 187 #[.val (.int p1), .val (.int p2), .val (.int p3), .val (.int p4), .val (.int kk), .val (.int op), .val (.int t0), .val (.int t1), .val (.int t2), .val (.ref b6), .val (.int (0 : Int32)), .val (.int g1), .val (.int f2), .unset] [])) _
          refine XS.iconst X69.here hx rfl (hb hby at_187) ?_
          show Steps p.tables e below (T69.setTop (mkF m 188 #[.val (.int p1), .val (.int p2), .val (.int p3), .val (.int p4), .val (.int kk), .val (.int op), .val (.int t0), .val (.int t1), .val (.int t2), .val (.ref b6), .val (.int (0 : Int32)), .val (.int g1), .val (.int f2), .unset] [(.int (1 : Int32))])) _
          refine XS.goto X69.here hx rfl (pc0 := 188) (pc' := 192) rfl (hb hby at_188) (by decide) (by decide) ?_
          show Steps p.tables e below (T69.setTop (mkF m 192 #[.val (.int p1), .val (.int p2), .val (.int p3), .val (.int p4), .val (.int kk), .val (.int op), .val (.int t0), .val (.int t1), .val (.int t2), .val (.ref b6), .val (.int (0 : Int32)), .val (.int g1), .val (.int f2), .unset] [(.int (1 : Int32))])) _
          simp only [if_neg hj177_74, if_neg hj184_75] at kt_
          exact kt_
    obtain ⟨g2, hg2⟩ : ∃ z, z = (if f2 = (0 : Int32) then (0 : Int32) else (if t2 = t0 then (0 : Int32) else (1 : Int32))) := ⟨_, rfl⟩
    rw [← hg2] at pre77
    have pre80 : ∀ tgt, Steps p.tables e below (T69.setTop (mkF m 280 #[.val (.int p1), .val (.int p2), .val (.int p3), .val (.int p4), .val (.int kk), .val (.int op), .val (.int t0), .val (.int t1), .val (.int t2), .val (.ref b6), .val (.int (0 : Int32)), .val (.int g1), .val (.int g2), .unset] [(.int (0 : Int32))])) tgt → Steps p.tables e below (s₁.setTop (entryFrame m #[(.int p1), (.int p2), (.int p3), (.int p4)] maxLocals)) tgt := fun tgt kt_ => by
      refine pre77 _ ?_
      show Steps p.tables e below (T69.setTop (mkF m 192 #[.val (.int p1), .val (.int p2), .val (.int p3), .val (.int p4), .val (.int kk), .val (.int op), .val (.int t0), .val (.int t1), .val (.int t2), .val (.ref b6), .val (.int (0 : Int32)), .val (.int g1), .val (.int f2), .unset] [(.int g2)])) _
      refine XS.istore X69.here hx rfl (hb hby at_192) rfl (l' := #[.val (.int p1), .val (.int p2), .val (.int p3), .val (.int p4), .val (.int kk), .val (.int op), .val (.int t0), .val (.int t1), .val (.int t2), .val (.ref b6), .val (.int (0 : Int32)), .val (.int g1), .val (.int g2), .unset]) rfl ?_
      show Steps p.tables e below (T69.setTop (mkF m 194 #[.val (.int p1), .val (.int p2), .val (.int p3), .val (.int p4), .val (.int kk), .val (.int op), .val (.int t0), .val (.int t1), .val (.int t2), .val (.ref b6), .val (.int (0 : Int32)), .val (.int g1), .val (.int g2), .unset] [])) _
      refine XS.goto X69.here hx rfl (pc0 := 194) (pc' := 278) rfl (hb hby at_194) (by decide) (by decide) ?_
      show Steps p.tables e below (T69.setTop (mkF m 278 #[.val (.int p1), .val (.int p2), .val (.int p3), .val (.int p4), .val (.int kk), .val (.int op), .val (.int t0), .val (.int t1), .val (.int t2), .val (.ref b6), .val (.int (0 : Int32)), .val (.int g1), .val (.int g2), .unset] [])) _
      refine XS.iload X69.here hx rfl (hb hby at_278) rfl ?_
      show Steps p.tables e below (T69.setTop (mkF m 280 #[.val (.int p1), .val (.int p2), .val (.int p3), .val (.int p4), .val (.int kk), .val (.int op), .val (.int t0), .val (.int t1), .val (.int t2), .val (.ref b6), .val (.int (0 : Int32)), .val (.int g1), .val (.int g2), .unset] [(.int (0 : Int32))])) _
      exact kt_
    have pre81 : ∀ tgt, Steps p.tables e below (T69.setTop (mkF m 298 #[.val (.int p1), .val (.int p2), .val (.int p3), .val (.int p4), .val (.int kk), .val (.int op), .val (.int t0), .val (.int t1), .val (.int t2), .val (.ref b6), .val (.int (0 : Int32)), .val (.int g1), .val (.int g2), .unset] [(.int (if g1 = (0 : Int32) then (if g2 = (0 : Int32) then (1 : Int32) else (0 : Int32)) else (0 : Int32)))])) tgt → Steps p.tables e below (s₁.setTop (entryFrame m #[(.int p1), (.int p2), (.int p3), (.int p4)] maxLocals)) tgt := fun tgt kt_ => by
      refine pre80 _ ?_
      show Steps p.tables e below (T69.setTop (mkF m 280 #[.val (.int p1), .val (.int p2), .val (.int p3), .val (.int p4), .val (.int kk), .val (.int op), .val (.int t0), .val (.int t1), .val (.int t2), .val (.ref b6), .val (.int (0 : Int32)), .val (.int g1), .val (.int g2), .unset] [(.int (0 : Int32))])) _
      refine XS.ifNo X69.here hx rfl (hb hby at_280) rfl ((if0 _ _).trans (teq (by decide : (0 : Int32) = (0 : Int32))).2) ?_
      show Steps p.tables e below (T69.setTop (mkF m 283 #[.val (.int p1), .val (.int p2), .val (.int p3), .val (.int p4), .val (.int kk), .val (.int op), .val (.int t0), .val (.int t1), .val (.int t2), .val (.ref b6), .val (.int (0 : Int32)), .val (.int g1), .val (.int g2), .unset] [])) _
      refine XS.iload X69.here hx rfl (hb hby at_283) rfl ?_
      show Steps p.tables e below (T69.setTop (mkF m 285 #[.val (.int p1), .val (.int p2), .val (.int p3), .val (.int p4), .val (.int kk), .val (.int op), .val (.int t0), .val (.int t1), .val (.int t2), .val (.ref b6), .val (.int (0 : Int32)), .val (.int g1), .val (.int g2), .unset] [(.int g1)])) _
      rcases Decidable.em (g1 = (0 : Int32)) with hj285_78 | hj285_78
      ·
        refine XS.ifNo X69.here hx rfl (hb hby at_285) rfl ((if0 _ _).trans (teq hj285_78).2) ?_
        show Steps p.tables e below (T69.setTop (mkF m 288 #[.val (.int p1), .val (.int p2), .val (.int p3), .val (.int p4), .val (.int kk), .val (.int op), .val (.int t0), .val (.int t1), .val (.int t2), .val (.ref b6), .val (.int (0 : Int32)), .val (.int g1), .val (.int g2), .unset] [])) _
        refine XS.iload X69.here hx rfl (hb hby at_288) rfl ?_
        show Steps p.tables e below (T69.setTop (mkF m 290 #[.val (.int p1), .val (.int p2), .val (.int p3), .val (.int p4), .val (.int kk), .val (.int op), .val (.int t0), .val (.int t1), .val (.int t2), .val (.ref b6), .val (.int (0 : Int32)), .val (.int g1), .val (.int g2), .unset] [(.int g2)])) _
        rcases Decidable.em (g2 = (0 : Int32)) with hj290_79 | hj290_79
        ·
          refine XS.ifNo X69.here hx rfl (hb hby at_290) rfl ((if0 _ _).trans (teq hj290_79).2) ?_
          show Steps p.tables e below (T69.setTop (mkF m 293 #[.val (.int p1), .val (.int p2), .val (.int p3), .val (.int p4), .val (.int kk), .val (.int op), .val (.int t0), .val (.int t1), .val (.int t2), .val (.ref b6), .val (.int (0 : Int32)), .val (.int g1), .val (.int g2), .unset] [])) _
          refine XS.iconst X69.here hx rfl (hb hby at_293) ?_
          show Steps p.tables e below (T69.setTop (mkF m 294 #[.val (.int p1), .val (.int p2), .val (.int p3), .val (.int p4), .val (.int kk), .val (.int op), .val (.int t0), .val (.int t1), .val (.int t2), .val (.ref b6), .val (.int (0 : Int32)), .val (.int g1), .val (.int g2), .unset] [(.int (1 : Int32))])) _
          refine XS.goto X69.here hx rfl (pc0 := 294) (pc' := 298) rfl (hb hby at_294) (by decide) (by decide) ?_
          show Steps p.tables e below (T69.setTop (mkF m 298 #[.val (.int p1), .val (.int p2), .val (.int p3), .val (.int p4), .val (.int kk), .val (.int op), .val (.int t0), .val (.int t1), .val (.int t2), .val (.ref b6), .val (.int (0 : Int32)), .val (.int g1), .val (.int g2), .unset] [(.int (1 : Int32))])) _
          simp only [if_pos hj285_78, if_pos hj290_79] at kt_
          exact kt_
        ·
          refine XS.ifYes X69.here hx rfl (pc0 := 290) (pc' := 297) rfl (hb hby at_290) rfl ((if0 _ _).trans (feq hj290_79).2) (by decide) (by decide) ?_
          show Steps p.tables e below (T69.setTop (mkF m 297 #[.val (.int p1), .val (.int p2), .val (.int p3), .val (.int p4), .val (.int kk), .val (.int op), .val (.int t0), .val (.int t1), .val (.int t2), .val (.ref b6), .val (.int (0 : Int32)), .val (.int g1), .val (.int g2), .unset] [])) _
          refine XS.iconst X69.here hx rfl (hb hby at_297) ?_
          show Steps p.tables e below (T69.setTop (mkF m 298 #[.val (.int p1), .val (.int p2), .val (.int p3), .val (.int p4), .val (.int kk), .val (.int op), .val (.int t0), .val (.int t1), .val (.int t2), .val (.ref b6), .val (.int (0 : Int32)), .val (.int g1), .val (.int g2), .unset] [(.int (0 : Int32))])) _
          simp only [if_pos hj285_78, if_neg hj290_79] at kt_
          exact kt_
      ·
        refine XS.ifYes X69.here hx rfl (pc0 := 285) (pc' := 297) rfl (hb hby at_285) rfl ((if0 _ _).trans (feq hj285_78).2) (by decide) (by decide) ?_
        show Steps p.tables e below (T69.setTop (mkF m 297 #[.val (.int p1), .val (.int p2), .val (.int p3), .val (.int p4), .val (.int kk), .val (.int op), .val (.int t0), .val (.int t1), .val (.int t2), .val (.ref b6), .val (.int (0 : Int32)), .val (.int g1), .val (.int g2), .unset] [])) _
        refine XS.iconst X69.here hx rfl (hb hby at_297) ?_
        show Steps p.tables e below (T69.setTop (mkF m 298 #[.val (.int p1), .val (.int p2), .val (.int p3), .val (.int p4), .val (.int kk), .val (.int op), .val (.int t0), .val (.int t1), .val (.int t2), .val (.ref b6), .val (.int (0 : Int32)), .val (.int g1), .val (.int g2), .unset] [(.int (0 : Int32))])) _
        simp only [if_neg hj285_78] at kt_
        exact kt_
    obtain ⟨ex, hex⟩ : ∃ z, z = (if g1 = (0 : Int32) then (if g2 = (0 : Int32) then (1 : Int32) else (0 : Int32)) else (0 : Int32)) := ⟨_, rfl⟩
    rw [← hex] at pre81
    obtain ⟨cq82, kq82, q82a, q82b, q82c⟩ := isOf hZ rfl (own_tgExa Tg69)
    obtain ⟨_, _, ⟨T82, L82, k82, n82⟩, -, X82, ⟨Lc82, hQ82, l82, y82, z82⟩, st82⟩ := X69.virtualBack hx (y := (⟨"com/example/dramatis/dramatis/analysis/RoleGraph$Targets", "isEmpty", "()Z"⟩ : MethodName)) (z := (⟨"com/example/dramatis/dramatis/analysis/RoleGraph$Targets", "isEmpty", "()Z"⟩ : MethodName)) hown (mvT hZ (hw _ (List.mem_of_getElem? (i := 24) rfl))) (mvT hZ (hw _ (List.mem_of_getElem? (i := 25) rfl))) (notFace_of_selects (args := #[]) (mvT hZ (hw _ (List.mem_of_getElem? (i := 27) rfl)))) (mvT hZ (hw _ (List.mem_of_getElem? (i := 27) rfl))) (mvT hZ (hw _ (List.mem_of_getElem? (i := 26) rfl))) (by decide) (backOf (W := 0) (rmEmp l Z a0 hw [] b6 3 (own_rm (t0 + (1 : Int32)) (own_ad (decide ((2 : Int32) < kk)) (t2 + (1 : Int32)) (own_ad (decide ((1 : Int32) < kk)) (t1 + (1 : Int32)) (own_ad (decide ((0 : Int32) < kk)) (t0 + (1 : Int32)) (fun _ => false))))) ex T69.heap n0 Zs69 Tg69 (own_ans1 in_t1 in_t2 hf1 hf2 hg1 hg2 hex)) hZ (hw _ (List.mem_of_getElem? (i := 28) rfl)) (hw _ (List.mem_of_getElem? (i := 2) rfl)) (by decide) (by decide)) q82a q82c (g := (mkF m 302 #[.val (.int p1), .val (.int p2), .val (.int p3), .val (.int p4), .val (.int kk), .val (.int op), .val (.int t0), .val (.int t1), .val (.int t2), .val (.ref b6), .val (.int (0 : Int32)), .val (.int g1), .val (.int g2), .val (.int ex)] [(.ref b6)])) rfl (by rw [hml]; rfl) (Steps.refl _) (argsL := []) (rest := []) (lenOf own_pd10 rfl) rfl (by show 2 * 0 + _ ≤ _; exact Nat.le_of_eq rfl) (hb hby at_302) (fun _ _ => ⟨rfl, rfl, (by decide : 8 + 0 ≤ _), (by decide : 52 + 0 ≤ _)⟩)
    dsimp only [Pt.U, Pt.locs, Pt.cells, Pt.slots] at X82 l82 y82 z82 st82 hQ82
    subst l82 y82 z82
    obtain ⟨rfl, N82q, eq82⟩ := hQ82
    have N82 := Fr.app N69 N82q
    obtain ⟨fs, hr, hrun, hended, hW, hsame⟩ := X82.leave (v := some (.int (1 : Int32))) (fun h => by rw [Bd.returns] at h; cases h)
    refine ⟨_, _, pre81 _ ?_, hrun, hended, _, _, rfl, ?_, ⟨_, rfl⟩, hW, hsame.mono (by decide) (by decide)⟩
    ·
      show Steps p.tables e below (T69.setTop (mkF m 298 #[.val (.int p1), .val (.int p2), .val (.int p3), .val (.int p4), .val (.int kk), .val (.int op), .val (.int t0), .val (.int t1), .val (.int t2), .val (.ref b6), .val (.int (0 : Int32)), .val (.int g1), .val (.int g2), .unset] [(.int ex)])) _
      refine XS.istore X69.here hx rfl (hb hby at_298) rfl (l' := #[.val (.int p1), .val (.int p2), .val (.int p3), .val (.int p4), .val (.int kk), .val (.int op), .val (.int t0), .val (.int t1), .val (.int t2), .val (.ref b6), .val (.int (0 : Int32)), .val (.int g1), .val (.int g2), .val (.int ex)]) rfl ?_
      show Steps p.tables e below (T69.setTop (mkF m 300 #[.val (.int p1), .val (.int p2), .val (.int p3), .val (.int p4), .val (.int kk), .val (.int op), .val (.int t0), .val (.int t1), .val (.int t2), .val (.ref b6), .val (.int (0 : Int32)), .val (.int g1), .val (.int g2), .val (.int ex)] [])) _
      refine XS.aload X69.here hx rfl (hb hby at_300) rfl rfl ?_
      show Steps p.tables e below (T69.setTop (mkF m 302 #[.val (.int p1), .val (.int p2), .val (.int p3), .val (.int p4), .val (.int kk), .val (.int op), .val (.int t0), .val (.int t1), .val (.int t2), .val (.ref b6), .val (.int (0 : Int32)), .val (.int g1), .val (.int g2), .val (.int ex)] [(.ref b6)])) _
      refine st82.trans ?_
      show Steps p.tables e below (T82.setTop (mkF m 305 #[.val (.int p1), .val (.int p2), .val (.int p3), .val (.int p4), .val (.int kk), .val (.int op), .val (.int t0), .val (.int t1), .val (.int t2), .val (.ref b6), .val (.int (0 : Int32)), .val (.int g1), .val (.int g2), .val (.int ex)] [(.int ex)])) _
      refine XS.iload X82.here hx rfl (hb hby at_305) rfl ?_
      show Steps p.tables e below (T82.setTop (mkF m 307 #[.val (.int p1), .val (.int p2), .val (.int p3), .val (.int p4), .val (.int kk), .val (.int op), .val (.int t0), .val (.int t1), .val (.int t2), .val (.ref b6), .val (.int (0 : Int32)), .val (.int g1), .val (.int g2), .val (.int ex)] [(.int ex), (.int ex)])) _
      refine XS.icmpNo X82.here hx rfl (hb hby at_307) rfl (teq (rfl : ex = ex)).2 ?_
      show Steps p.tables e below (T82.setTop (mkF m 310 #[.val (.int p1), .val (.int p2), .val (.int p3), .val (.int p4), .val (.int kk), .val (.int op), .val (.int t0), .val (.int t1), .val (.int t2), .val (.ref b6), .val (.int (0 : Int32)), .val (.int g1), .val (.int g2), .val (.int ex)] [])) _
      refine XS.iconst X82.here hx rfl (hb hby at_310) ?_
      show Steps p.tables e below (T82.setTop (mkF m 311 #[.val (.int p1), .val (.int p2), .val (.int p3), .val (.int p4), .val (.int kk), .val (.int op), .val (.int t0), .val (.int t1), .val (.int t2), .val (.ref b6), .val (.int (0 : Int32)), .val (.int g1), .val (.int g2), .val (.int ex)] [(.int (1 : Int32))])) _
      refine XS.goto X82.here hx rfl (pc0 := 311) (pc' := 315) rfl (hb hby at_311) (by decide) (by decide) ?_
      show Steps p.tables e below (T82.setTop (mkF m 315 #[.val (.int p1), .val (.int p2), .val (.int p3), .val (.int p4), .val (.int kk), .val (.int op), .val (.int t0), .val (.int t1), .val (.int t2), .val (.ref b6), .val (.int (0 : Int32)), .val (.int g1), .val (.int g2), .val (.int ex)] [(.int (1 : Int32))])) _
      exact retN X82 hx (t := .boolean) Bd.returns (by simp) (hb hby at_315) hr
    ·
      show Q_rm0 Z p1 p2 p3 p4 ca cc nw kn h0 n0 (_) T82.heap (_)
      rw [eq82]
      exact ⟨rfl, N82⟩
  ·
    have pre83 : ∀ tgt, Steps p.tables e below (T38.setTop (mkF m 200 #[.val (.int p1), .val (.int p2), .val (.int p3), .val (.int p4), .val (.int kk), .val (.int op), .val (.int t0), .val (.int t1), .val (.int t2), .val (.ref b6), .val (.int f0), .val (.int f1), .val (.int f2), .unset] [(.int (2 : Int32)), (.int op)])) tgt → Steps p.tables e below (s₁.setTop (entryFrame m #[(.int p1), (.int p2), (.int p3), (.int p4)] maxLocals)) tgt := fun tgt kt_ => by
      refine pre60 _ ?_
      show Steps p.tables e below (T38.setTop (mkF m 139 #[.val (.int p1), .val (.int p2), .val (.int p3), .val (.int p4), .val (.int kk), .val (.int op), .val (.int t0), .val (.int t1), .val (.int t2), .val (.ref b6), .val (.int f0), .val (.int f1), .val (.int f2), .unset] [(.int (1 : Int32)), (.int op)])) _
      refine XS.icmpYes X38.here hx rfl (pc0 := 139) (pc' := 197) rfl (hb hby at_139) rfl (feq hc139_61).2 (by decide) (by decide) ?_
      show Steps p.tables e below (T38.setTop (mkF m 197 #[.val (.int p1), .val (.int p2), .val (.int p3), .val (.int p4), .val (.int kk), .val (.int op), .val (.int t0), .val (.int t1), .val (.int t2), .val (.ref b6), .val (.int f0), .val (.int f1), .val (.int f2), .unset] [])) _
      refine XS.iload X38.here hx rfl (hb hby at_197) rfl ?_
      show Steps p.tables e below (T38.setTop (mkF m 199 #[.val (.int p1), .val (.int p2), .val (.int p3), .val (.int p4), .val (.int kk), .val (.int op), .val (.int t0), .val (.int t1), .val (.int t2), .val (.ref b6), .val (.int f0), .val (.int f1), .val (.int f2), .unset] [(.int op)])) _
      refine XS.iconst X38.here hx rfl (hb hby at_199) ?_
      show Steps p.tables e below (T38.setTop (mkF m 200 #[.val (.int p1), .val (.int p2), .val (.int p3), .val (.int p4), .val (.int kk), .val (.int op), .val (.int t0), .val (.int t1), .val (.int t2), .val (.ref b6), .val (.int f0), .val (.int f1), .val (.int f2), .unset] [(.int (2 : Int32)), (.int op)])) _
      exact kt_
    rcases Decidable.em (op = (2 : Int32)) with hc200_84 | hc200_84
    ·
      have EX85 := own_tgExa Tj2
      obtain ⟨cq86, kq86, q86a, q86b, q86c⟩ := isOf hZ rfl (own_tgExa Tj2)
      obtain ⟨_, _, ⟨T86, L86, k86, n86⟩, -, X86, ⟨Lc86, hQ86, l86, y86, z86⟩, st86⟩ := X38.virtualBack hx (y := (⟨"com/example/dramatis/dramatis/analysis/RoleGraph$Targets", "clear", "()V"⟩ : MethodName)) (z := (⟨"com/example/dramatis/dramatis/analysis/RoleGraph$Targets", "clear", "()V"⟩ : MethodName)) hown (mvT hZ (hw _ (List.mem_of_getElem? (i := 102) rfl))) (mvT hZ (hw _ (List.mem_of_getElem? (i := 103) rfl))) (notFace_of_selects (args := #[]) (mvT hZ (hw _ (List.mem_of_getElem? (i := 105) rfl)))) (mvT hZ (hw _ (List.mem_of_getElem? (i := 105) rfl))) (mvT hZ (hw _ (List.mem_of_getElem? (i := 104) rfl))) (by decide) (backOf (W := 0) (rmClear l Z a0 hw [] b6 3 (own_ad (decide ((2 : Int32) < kk)) (t2 + (1 : Int32)) (own_ad (decide ((1 : Int32) < kk)) (t1 + (1 : Int32)) (own_ad (decide ((0 : Int32) < kk)) (t0 + (1 : Int32)) (fun _ => false)))) T38.heap n0 Zs38 Tj2 gf_b6 Oj2) hZ (hw _ (List.mem_of_getElem? (i := 106) rfl)) (hw _ (List.mem_of_getElem? (i := 2) rfl)) (by decide) (by decide)) q86a q86c (g := (mkF m 205 #[.val (.int p1), .val (.int p2), .val (.int p3), .val (.int p4), .val (.int kk), .val (.int op), .val (.int t0), .val (.int t1), .val (.int t2), .val (.ref b6), .val (.int f0), .val (.int f1), .val (.int f2), .unset] [(.ref b6)])) rfl (by rw [hml]; rfl) (Steps.refl _) (argsL := []) (rest := []) (lenOf own_pd0 rfl) rfl (by show 2 * 0 + _ ≤ _; exact Nat.le_of_eq rfl) (hb hby at_205) (fun _ _ => ⟨rfl, rfl, (by decide : 7 + 0 ≤ _), (by decide : 51 + 0 ≤ _)⟩)
      dsimp only [Pt.U, Pt.locs, Pt.cells, Pt.slots] at X86 l86 y86 z86 st86 hQ86
      subst l86 y86 z86
      obtain ⟨rfl, N86q, O86, Tg86⟩ := hQ86
      have N86 := Fr.app N38 N86q
      have Zs86 : n0 ≤ T86.heap.size := own_osz O86
      have pre87 : ∀ tgt, Steps p.tables e below (T86.setTop (mkF m 280 #[.val (.int p1), .val (.int p2), .val (.int p3), .val (.int p4), .val (.int kk), .val (.int op), .val (.int t0), .val (.int t1), .val (.int t2), .val (.ref b6), .val (.int (0 : Int32)), .val (.int (0 : Int32)), .val (.int (0 : Int32)), .unset] [(.int (0 : Int32))])) tgt → Steps p.tables e below (s₁.setTop (entryFrame m #[(.int p1), (.int p2), (.int p3), (.int p4)] maxLocals)) tgt := fun tgt kt_ => by
        refine pre83 _ ?_
        show Steps p.tables e below (T38.setTop (mkF m 200 #[.val (.int p1), .val (.int p2), .val (.int p3), .val (.int p4), .val (.int kk), .val (.int op), .val (.int t0), .val (.int t1), .val (.int t2), .val (.ref b6), .val (.int f0), .val (.int f1), .val (.int f2), .unset] [(.int (2 : Int32)), (.int op)])) _
        refine XS.icmpNo X38.here hx rfl (hb hby at_200) rfl (teq hc200_84).2 ?_
        show Steps p.tables e below (T38.setTop (mkF m 203 #[.val (.int p1), .val (.int p2), .val (.int p3), .val (.int p4), .val (.int kk), .val (.int op), .val (.int t0), .val (.int t1), .val (.int t2), .val (.ref b6), .val (.int f0), .val (.int f1), .val (.int f2), .unset] [])) _
        refine XS.aload X38.here hx rfl (hb hby at_203) rfl rfl ?_
        show Steps p.tables e below (T38.setTop (mkF m 205 #[.val (.int p1), .val (.int p2), .val (.int p3), .val (.int p4), .val (.int kk), .val (.int op), .val (.int t0), .val (.int t1), .val (.int t2), .val (.ref b6), .val (.int f0), .val (.int f1), .val (.int f2), .unset] [(.ref b6)])) _
        refine st86.trans ?_
        show Steps p.tables e below (T86.setTop (mkF m 208 #[.val (.int p1), .val (.int p2), .val (.int p3), .val (.int p4), .val (.int kk), .val (.int op), .val (.int t0), .val (.int t1), .val (.int t2), .val (.ref b6), .val (.int f0), .val (.int f1), .val (.int f2), .unset] [])) _
        refine XS.iconst X86.here hx rfl (hb hby at_208) ?_
        show Steps p.tables e below (T86.setTop (mkF m 209 #[.val (.int p1), .val (.int p2), .val (.int p3), .val (.int p4), .val (.int kk), .val (.int op), .val (.int t0), .val (.int t1), .val (.int t2), .val (.ref b6), .val (.int f0), .val (.int f1), .val (.int f2), .unset] [(.int (0 : Int32))])) _
        refine XS.istore X86.here hx rfl (hb hby at_209) rfl (l' := #[.val (.int p1), .val (.int p2), .val (.int p3), .val (.int p4), .val (.int kk), .val (.int op), .val (.int t0), .val (.int t1), .val (.int t2), .val (.ref b6), .val (.int (0 : Int32)), .val (.int f1), .val (.int f2), .unset]) rfl ?_
        show Steps p.tables e below (T86.setTop (mkF m 211 #[.val (.int p1), .val (.int p2), .val (.int p3), .val (.int p4), .val (.int kk), .val (.int op), .val (.int t0), .val (.int t1), .val (.int t2), .val (.ref b6), .val (.int (0 : Int32)), .val (.int f1), .val (.int f2), .unset] [])) _
        refine XS.iconst X86.here hx rfl (hb hby at_211) ?_
        show Steps p.tables e below (T86.setTop (mkF m 212 #[.val (.int p1), .val (.int p2), .val (.int p3), .val (.int p4), .val (.int kk), .val (.int op), .val (.int t0), .val (.int t1), .val (.int t2), .val (.ref b6), .val (.int (0 : Int32)), .val (.int f1), .val (.int f2), .unset] [(.int (0 : Int32))])) _
        refine XS.istore X86.here hx rfl (hb hby at_212) rfl (l' := #[.val (.int p1), .val (.int p2), .val (.int p3), .val (.int p4), .val (.int kk), .val (.int op), .val (.int t0), .val (.int t1), .val (.int t2), .val (.ref b6), .val (.int (0 : Int32)), .val (.int (0 : Int32)), .val (.int f2), .unset]) rfl ?_
        show Steps p.tables e below (T86.setTop (mkF m 214 #[.val (.int p1), .val (.int p2), .val (.int p3), .val (.int p4), .val (.int kk), .val (.int op), .val (.int t0), .val (.int t1), .val (.int t2), .val (.ref b6), .val (.int (0 : Int32)), .val (.int (0 : Int32)), .val (.int f2), .unset] [])) _
        refine XS.iconst X86.here hx rfl (hb hby at_214) ?_
        show Steps p.tables e below (T86.setTop (mkF m 215 #[.val (.int p1), .val (.int p2), .val (.int p3), .val (.int p4), .val (.int kk), .val (.int op), .val (.int t0), .val (.int t1), .val (.int t2), .val (.ref b6), .val (.int (0 : Int32)), .val (.int (0 : Int32)), .val (.int f2), .unset] [(.int (0 : Int32))])) _
        refine XS.istore X86.here hx rfl (hb hby at_215) rfl (l' := #[.val (.int p1), .val (.int p2), .val (.int p3), .val (.int p4), .val (.int kk), .val (.int op), .val (.int t0), .val (.int t1), .val (.int t2), .val (.ref b6), .val (.int (0 : Int32)), .val (.int (0 : Int32)), .val (.int (0 : Int32)), .unset]) rfl ?_
        show Steps p.tables e below (T86.setTop (mkF m 217 #[.val (.int p1), .val (.int p2), .val (.int p3), .val (.int p4), .val (.int kk), .val (.int op), .val (.int t0), .val (.int t1), .val (.int t2), .val (.ref b6), .val (.int (0 : Int32)), .val (.int (0 : Int32)), .val (.int (0 : Int32)), .unset] [])) _
        refine XS.goto X86.here hx rfl (pc0 := 217) (pc' := 278) rfl (hb hby at_217) (by decide) (by decide) ?_
        show Steps p.tables e below (T86.setTop (mkF m 278 #[.val (.int p1), .val (.int p2), .val (.int p3), .val (.int p4), .val (.int kk), .val (.int op), .val (.int t0), .val (.int t1), .val (.int t2), .val (.ref b6), .val (.int (0 : Int32)), .val (.int (0 : Int32)), .val (.int (0 : Int32)), .unset] [])) _
        refine XS.iload X86.here hx rfl (hb hby at_278) rfl ?_
        show Steps p.tables e below (T86.setTop (mkF m 280 #[.val (.int p1), .val (.int p2), .val (.int p3), .val (.int p4), .val (.int kk), .val (.int op), .val (.int t0), .val (.int t1), .val (.int t2), .val (.ref b6), .val (.int (0 : Int32)), .val (.int (0 : Int32)), .val (.int (0 : Int32)), .unset] [(.int (0 : Int32))])) _
        exact kt_
      have pre88 : ∀ tgt, Steps p.tables e below (T86.setTop (mkF m 298 #[.val (.int p1), .val (.int p2), .val (.int p3), .val (.int p4), .val (.int kk), .val (.int op), .val (.int t0), .val (.int t1), .val (.int t2), .val (.ref b6), .val (.int (0 : Int32)), .val (.int (0 : Int32)), .val (.int (0 : Int32)), .unset] [(.int (1 : Int32))])) tgt → Steps p.tables e below (s₁.setTop (entryFrame m #[(.int p1), (.int p2), (.int p3), (.int p4)] maxLocals)) tgt := fun tgt kt_ => by
        refine pre87 _ ?_
        show Steps p.tables e below (T86.setTop (mkF m 280 #[.val (.int p1), .val (.int p2), .val (.int p3), .val (.int p4), .val (.int kk), .val (.int op), .val (.int t0), .val (.int t1), .val (.int t2), .val (.ref b6), .val (.int (0 : Int32)), .val (.int (0 : Int32)), .val (.int (0 : Int32)), .unset] [(.int (0 : Int32))])) _
        refine XS.ifNo X86.here hx rfl (hb hby at_280) rfl ((if0 _ _).trans (teq (by decide : (0 : Int32) = (0 : Int32))).2) ?_
        show Steps p.tables e below (T86.setTop (mkF m 283 #[.val (.int p1), .val (.int p2), .val (.int p3), .val (.int p4), .val (.int kk), .val (.int op), .val (.int t0), .val (.int t1), .val (.int t2), .val (.ref b6), .val (.int (0 : Int32)), .val (.int (0 : Int32)), .val (.int (0 : Int32)), .unset] [])) _
        refine XS.iload X86.here hx rfl (hb hby at_283) rfl ?_
        show Steps p.tables e below (T86.setTop (mkF m 285 #[.val (.int p1), .val (.int p2), .val (.int p3), .val (.int p4), .val (.int kk), .val (.int op), .val (.int t0), .val (.int t1), .val (.int t2), .val (.ref b6), .val (.int (0 : Int32)), .val (.int (0 : Int32)), .val (.int (0 : Int32)), .unset] [(.int (0 : Int32))])) _
        refine XS.ifNo X86.here hx rfl (hb hby at_285) rfl ((if0 _ _).trans (teq (by decide : (0 : Int32) = (0 : Int32))).2) ?_
        show Steps p.tables e below (T86.setTop (mkF m 288 #[.val (.int p1), .val (.int p2), .val (.int p3), .val (.int p4), .val (.int kk), .val (.int op), .val (.int t0), .val (.int t1), .val (.int t2), .val (.ref b6), .val (.int (0 : Int32)), .val (.int (0 : Int32)), .val (.int (0 : Int32)), .unset] [])) _
        refine XS.iload X86.here hx rfl (hb hby at_288) rfl ?_
        show Steps p.tables e below (T86.setTop (mkF m 290 #[.val (.int p1), .val (.int p2), .val (.int p3), .val (.int p4), .val (.int kk), .val (.int op), .val (.int t0), .val (.int t1), .val (.int t2), .val (.ref b6), .val (.int (0 : Int32)), .val (.int (0 : Int32)), .val (.int (0 : Int32)), .unset] [(.int (0 : Int32))])) _
        refine XS.ifNo X86.here hx rfl (hb hby at_290) rfl ((if0 _ _).trans (teq (by decide : (0 : Int32) = (0 : Int32))).2) ?_
        show Steps p.tables e below (T86.setTop (mkF m 293 #[.val (.int p1), .val (.int p2), .val (.int p3), .val (.int p4), .val (.int kk), .val (.int op), .val (.int t0), .val (.int t1), .val (.int t2), .val (.ref b6), .val (.int (0 : Int32)), .val (.int (0 : Int32)), .val (.int (0 : Int32)), .unset] [])) _
        refine XS.iconst X86.here hx rfl (hb hby at_293) ?_
        show Steps p.tables e below (T86.setTop (mkF m 294 #[.val (.int p1), .val (.int p2), .val (.int p3), .val (.int p4), .val (.int kk), .val (.int op), .val (.int t0), .val (.int t1), .val (.int t2), .val (.ref b6), .val (.int (0 : Int32)), .val (.int (0 : Int32)), .val (.int (0 : Int32)), .unset] [(.int (1 : Int32))])) _
        refine XS.goto X86.here hx rfl (pc0 := 294) (pc' := 298) rfl (hb hby at_294) (by decide) (by decide) ?_
        show Steps p.tables e below (T86.setTop (mkF m 298 #[.val (.int p1), .val (.int p2), .val (.int p3), .val (.int p4), .val (.int kk), .val (.int op), .val (.int t0), .val (.int t1), .val (.int t2), .val (.ref b6), .val (.int (0 : Int32)), .val (.int (0 : Int32)), .val (.int (0 : Int32)), .unset] [(.int (1 : Int32))])) _
        exact kt_
      obtain ⟨cq89, kq89, q89a, q89b, q89c⟩ := isOf hZ rfl (own_tgExa Tg86)
      obtain ⟨_, _, ⟨T89, L89, k89, n89⟩, -, X89, ⟨Lc89, hQ89, l89, y89, z89⟩, st89⟩ := X86.virtualBack hx (y := (⟨"com/example/dramatis/dramatis/analysis/RoleGraph$Targets", "isEmpty", "()Z"⟩ : MethodName)) (z := (⟨"com/example/dramatis/dramatis/analysis/RoleGraph$Targets", "isEmpty", "()Z"⟩ : MethodName)) hown (mvT hZ (hw _ (List.mem_of_getElem? (i := 24) rfl))) (mvT hZ (hw _ (List.mem_of_getElem? (i := 25) rfl))) (notFace_of_selects (args := #[]) (mvT hZ (hw _ (List.mem_of_getElem? (i := 27) rfl)))) (mvT hZ (hw _ (List.mem_of_getElem? (i := 27) rfl))) (mvT hZ (hw _ (List.mem_of_getElem? (i := 26) rfl))) (by decide) (backOf (W := 0) (rmEmp l Z a0 hw [] b6 3 (fun _ => false) (1 : Int32) T86.heap n0 Zs86 Tg86 (Or.inl ⟨rfl, fun _ _ => rfl⟩)) hZ (hw _ (List.mem_of_getElem? (i := 28) rfl)) (hw _ (List.mem_of_getElem? (i := 2) rfl)) (by decide) (by decide)) q89a q89c (g := (mkF m 302 #[.val (.int p1), .val (.int p2), .val (.int p3), .val (.int p4), .val (.int kk), .val (.int op), .val (.int t0), .val (.int t1), .val (.int t2), .val (.ref b6), .val (.int (0 : Int32)), .val (.int (0 : Int32)), .val (.int (0 : Int32)), .val (.int (1 : Int32))] [(.ref b6)])) rfl (by rw [hml]; rfl) (Steps.refl _) (argsL := []) (rest := []) (lenOf own_pd10 rfl) rfl (by show 2 * 0 + _ ≤ _; exact Nat.le_of_eq rfl) (hb hby at_302) (fun _ _ => ⟨rfl, rfl, (by decide : 7 + 0 ≤ _), (by decide : 51 + 0 ≤ _)⟩)
      dsimp only [Pt.U, Pt.locs, Pt.cells, Pt.slots] at X89 l89 y89 z89 st89 hQ89
      subst l89 y89 z89
      obtain ⟨rfl, N89q, eq89⟩ := hQ89
      have N89 := Fr.app N86 N89q
      obtain ⟨fs, hr, hrun, hended, hW, hsame⟩ := X89.leave (v := some (.int (1 : Int32))) (fun h => by rw [Bd.returns] at h; cases h)
      refine ⟨_, _, pre88 _ ?_, hrun, hended, _, _, rfl, ?_, ⟨_, rfl⟩, hW, hsame.mono (by decide) (by decide)⟩
      ·
        show Steps p.tables e below (T86.setTop (mkF m 298 #[.val (.int p1), .val (.int p2), .val (.int p3), .val (.int p4), .val (.int kk), .val (.int op), .val (.int t0), .val (.int t1), .val (.int t2), .val (.ref b6), .val (.int (0 : Int32)), .val (.int (0 : Int32)), .val (.int (0 : Int32)), .unset] [(.int (1 : Int32))])) _
        refine XS.istore X86.here hx rfl (hb hby at_298) rfl (l' := #[.val (.int p1), .val (.int p2), .val (.int p3), .val (.int p4), .val (.int kk), .val (.int op), .val (.int t0), .val (.int t1), .val (.int t2), .val (.ref b6), .val (.int (0 : Int32)), .val (.int (0 : Int32)), .val (.int (0 : Int32)), .val (.int (1 : Int32))]) rfl ?_
        show Steps p.tables e below (T86.setTop (mkF m 300 #[.val (.int p1), .val (.int p2), .val (.int p3), .val (.int p4), .val (.int kk), .val (.int op), .val (.int t0), .val (.int t1), .val (.int t2), .val (.ref b6), .val (.int (0 : Int32)), .val (.int (0 : Int32)), .val (.int (0 : Int32)), .val (.int (1 : Int32))] [])) _
        refine XS.aload X86.here hx rfl (hb hby at_300) rfl rfl ?_
        show Steps p.tables e below (T86.setTop (mkF m 302 #[.val (.int p1), .val (.int p2), .val (.int p3), .val (.int p4), .val (.int kk), .val (.int op), .val (.int t0), .val (.int t1), .val (.int t2), .val (.ref b6), .val (.int (0 : Int32)), .val (.int (0 : Int32)), .val (.int (0 : Int32)), .val (.int (1 : Int32))] [(.ref b6)])) _
        refine st89.trans ?_
        show Steps p.tables e below (T89.setTop (mkF m 305 #[.val (.int p1), .val (.int p2), .val (.int p3), .val (.int p4), .val (.int kk), .val (.int op), .val (.int t0), .val (.int t1), .val (.int t2), .val (.ref b6), .val (.int (0 : Int32)), .val (.int (0 : Int32)), .val (.int (0 : Int32)), .val (.int (1 : Int32))] [(.int (1 : Int32))])) _
        refine XS.iload X89.here hx rfl (hb hby at_305) rfl ?_
        show Steps p.tables e below (T89.setTop (mkF m 307 #[.val (.int p1), .val (.int p2), .val (.int p3), .val (.int p4), .val (.int kk), .val (.int op), .val (.int t0), .val (.int t1), .val (.int t2), .val (.ref b6), .val (.int (0 : Int32)), .val (.int (0 : Int32)), .val (.int (0 : Int32)), .val (.int (1 : Int32))] [(.int (1 : Int32)), (.int (1 : Int32))])) _
        refine XS.icmpNo X89.here hx rfl (hb hby at_307) rfl (teq (by decide : (1 : Int32) = (1 : Int32))).2 ?_
        show Steps p.tables e below (T89.setTop (mkF m 310 #[.val (.int p1), .val (.int p2), .val (.int p3), .val (.int p4), .val (.int kk), .val (.int op), .val (.int t0), .val (.int t1), .val (.int t2), .val (.ref b6), .val (.int (0 : Int32)), .val (.int (0 : Int32)), .val (.int (0 : Int32)), .val (.int (1 : Int32))] [])) _
        refine XS.iconst X89.here hx rfl (hb hby at_310) ?_
        show Steps p.tables e below (T89.setTop (mkF m 311 #[.val (.int p1), .val (.int p2), .val (.int p3), .val (.int p4), .val (.int kk), .val (.int op), .val (.int t0), .val (.int t1), .val (.int t2), .val (.ref b6), .val (.int (0 : Int32)), .val (.int (0 : Int32)), .val (.int (0 : Int32)), .val (.int (1 : Int32))] [(.int (1 : Int32))])) _
        refine XS.goto X89.here hx rfl (pc0 := 311) (pc' := 315) rfl (hb hby at_311) (by decide) (by decide) ?_
        show Steps p.tables e below (T89.setTop (mkF m 315 #[.val (.int p1), .val (.int p2), .val (.int p3), .val (.int p4), .val (.int kk), .val (.int op), .val (.int t0), .val (.int t1), .val (.int t2), .val (.ref b6), .val (.int (0 : Int32)), .val (.int (0 : Int32)), .val (.int (0 : Int32)), .val (.int (1 : Int32))] [(.int (1 : Int32))])) _
        exact retN X89 hx (t := .boolean) Bd.returns (by simp) (hb hby at_315) hr
      ·
        show Q_rm0 Z p1 p2 p3 p4 ca cc nw kn h0 n0 (_) T89.heap (_)
        rw [eq89]
        exact ⟨rfl, N89⟩
    ·
      have pre90 : ∀ tgt, Steps p.tables e below (T38.setTop (mkF m 223 #[.val (.int p1), .val (.int p2), .val (.int p3), .val (.int p4), .val (.int kk), .val (.int op), .val (.int t0), .val (.int t1), .val (.int t2), .val (.ref b6), .val (.int f0), .val (.int f1), .val (.int f2), .unset] [(.int (3 : Int32)), (.int op)])) tgt → Steps p.tables e below (s₁.setTop (entryFrame m #[(.int p1), (.int p2), (.int p3), (.int p4)] maxLocals)) tgt := fun tgt kt_ => by
        refine pre83 _ ?_
        show Steps p.tables e below (T38.setTop (mkF m 200 #[.val (.int p1), .val (.int p2), .val (.int p3), .val (.int p4), .val (.int kk), .val (.int op), .val (.int t0), .val (.int t1), .val (.int t2), .val (.ref b6), .val (.int f0), .val (.int f1), .val (.int f2), .unset] [(.int (2 : Int32)), (.int op)])) _
        refine XS.icmpYes X38.here hx rfl (pc0 := 200) (pc' := 220) rfl (hb hby at_200) rfl (feq hc200_84).2 (by decide) (by decide) ?_
        show Steps p.tables e below (T38.setTop (mkF m 220 #[.val (.int p1), .val (.int p2), .val (.int p3), .val (.int p4), .val (.int kk), .val (.int op), .val (.int t0), .val (.int t1), .val (.int t2), .val (.ref b6), .val (.int f0), .val (.int f1), .val (.int f2), .unset] [])) _
        refine XS.iload X38.here hx rfl (hb hby at_220) rfl ?_
        show Steps p.tables e below (T38.setTop (mkF m 222 #[.val (.int p1), .val (.int p2), .val (.int p3), .val (.int p4), .val (.int kk), .val (.int op), .val (.int t0), .val (.int t1), .val (.int t2), .val (.ref b6), .val (.int f0), .val (.int f1), .val (.int f2), .unset] [(.int op)])) _
        refine XS.iconst X38.here hx rfl (hb hby at_222) ?_
        show Steps p.tables e below (T38.setTop (mkF m 223 #[.val (.int p1), .val (.int p2), .val (.int p3), .val (.int p4), .val (.int kk), .val (.int op), .val (.int t0), .val (.int t1), .val (.int t2), .val (.ref b6), .val (.int f0), .val (.int f1), .val (.int f2), .unset] [(.int (3 : Int32)), (.int op)])) _
        exact kt_
      rcases Decidable.em (op = (3 : Int32)) with hc223_91 | hc223_91
      ·
        have c92 := SH.ext Oj2.2
        have c93 := SC.ext Oj2.2
        obtain ⟨_, _, ⟨T94, L94, k94, n94⟩, -, X94, ⟨Lc94, hQ94, l94, y94, z94⟩, st94⟩ := Jvm.LawKit.callS X38 hx (y := (⟨"java/lang/Integer", "valueOf", "(I)Ljava/lang/Integer;"⟩ : MethodName)) hown (mvT hZ (hw _ (List.mem_of_getElem? (i := 31) rfl))) (mvT hZ (hw _ (List.mem_of_getElem? (i := 32) rfl))) (mvT hZ (hw _ (List.mem_of_getElem? (i := 33) rfl))) (mvT hZ (hw _ (List.mem_of_getElem? (i := 34) rfl))) (by decide) (backOf (W := 1) (rmVO l Z a0 hw [] t1 ca cc T38.heap n0 Zs38 c92 c93 BX Oj2) hZ (hw _ (List.mem_of_getElem? (i := 34) rfl)) (hw _ (List.mem_of_getElem? (i := 33) rfl)) (by decide) (by decide)) (g := (mkF m 230 #[.val (.int p1), .val (.int p2), .val (.int p3), .val (.int p4), .val (.int kk), .val (.int op), .val (.int t0), .val (.int t1), .val (.int t2), .val (.ref b6), .val (.int f0), .val (.int f1), .val (.int f2), .unset] [(.int t1), (.ref b6)])) rfl (by rw [hml]; rfl) (argsL := [(.int t1)]) (rest := [(.ref b6)]) (lenOf own_pd8 rfl) rfl (by show 2 * 0 + _ ≤ _; exact Nat.le_of_eq rfl) (hb hby at_230) (fun _ _ => ⟨rfl, rfl, (by decide : 7 + 1 ≤ _), (by decide : 51 + 1 ≤ _)⟩)
        dsimp only [Pt.U, Pt.locs, Pt.cells, Pt.slots] at X94 l94 y94 z94 st94 hQ94
        subst l94 y94 z94
        obtain ⟨bx94, rfl, N94q, K94, A94, F94⟩ := hQ94
        have N94 := Fr.app N38 N94q
        have Zs95 : n0 ≤ T94.heap.size := Nat.le_trans Zs38 K94.1
        have O95 := Oj2.keep K94 all0
        have c96 := ((own_tgExa Tj2).keep K94)
        have c97 := (Tj2.keep K94)
        have EX98 := own_tgExa c97
        obtain ⟨cq99, kq99, q99a, q99b, q99c⟩ := isOf hZ rfl c96
        obtain ⟨_, _, ⟨T99, L99, k99, n99⟩, -, X99, ⟨Lc99, hQ99, l99, y99, z99⟩, st99⟩ := X94.virtualBack hx (y := (⟨"com/example/dramatis/dramatis/analysis/RoleGraph$Targets", "remove", "(Ljava/lang/Object;)Z"⟩ : MethodName)) (z := (⟨"com/example/dramatis/dramatis/analysis/RoleGraph$Targets", "remove", "(Ljava/lang/Object;)Z"⟩ : MethodName)) hown (mvT hZ (hw _ (List.mem_of_getElem? (i := 38) rfl))) (mvT hZ (hw _ (List.mem_of_getElem? (i := 39) rfl))) (notFace_of_selects (args := #[]) (mvT hZ (hw _ (List.mem_of_getElem? (i := 41) rfl)))) (mvT hZ (hw _ (List.mem_of_getElem? (i := 41) rfl))) (mvT hZ (hw _ (List.mem_of_getElem? (i := 40) rfl))) (by decide) (backOf (W := 0) (rmRem l Z a0 hw [] b6 bx94 t1 3 (own_ad (decide ((2 : Int32) < kk)) (t2 + (1 : Int32)) (own_ad (decide ((1 : Int32) < kk)) (t1 + (1 : Int32)) (own_ad (decide ((0 : Int32) < kk)) (t0 + (1 : Int32)) (fun _ => false)))) T94.heap n0 Zs95 c97 gf_b6 O95 A94 F94 in_t1 kt_t1 EX98) hZ (hw _ (List.mem_of_getElem? (i := 42) rfl)) (hw _ (List.mem_of_getElem? (i := 2) rfl)) (by decide) (by decide)) q99a q99c (g := (mkF m 233 #[.val (.int p1), .val (.int p2), .val (.int p3), .val (.int p4), .val (.int kk), .val (.int op), .val (.int t0), .val (.int t1), .val (.int t2), .val (.ref b6), .val (.int f0), .val (.int f1), .val (.int f2), .unset] [(.ref bx94), (.ref b6)])) rfl (by rw [hml]; rfl) (Steps.refl _) (argsL := [(.ref bx94)]) (rest := []) (lenOf own_pd6 rfl) rfl (by show 2 * 0 + _ ≤ _; exact Nat.le_of_eq rfl) (hb hby at_233) (fun _ _ => ⟨rfl, rfl, (by decide : 8 + 0 ≤ _), (by decide : 52 + 0 ≤ _)⟩)
        dsimp only [Pt.U, Pt.locs, Pt.cells, Pt.slots] at X99 l99 y99 z99 st99 hQ99
        subst l99 y99 z99
        obtain ⟨r99, rfl, N99q, O99, Tg99⟩ := hQ99
        have N99 := Fr.app N94 N99q
        have Zs99 : n0 ≤ T99.heap.size := own_osz O99
        have pre102 : ∀ tgt, Steps p.tables e below (T99.setTop (mkF m 239 #[.val (.int p1), .val (.int p2), .val (.int p3), .val (.int p4), .val (.int kk), .val (.int op), .val (.int t0), .val (.int t1), .val (.int t2), .val (.ref b6), .val (.int f0), .val (.int f1), .val (.int f2), .unset] [(.int f0)])) tgt → Steps p.tables e below (s₁.setTop (entryFrame m #[(.int p1), (.int p2), (.int p3), (.int p4)] maxLocals)) tgt := fun tgt kt_ => by
          refine pre90 _ ?_
          show Steps p.tables e below (T38.setTop (mkF m 223 #[.val (.int p1), .val (.int p2), .val (.int p3), .val (.int p4), .val (.int kk), .val (.int op), .val (.int t0), .val (.int t1), .val (.int t2), .val (.ref b6), .val (.int f0), .val (.int f1), .val (.int f2), .unset] [(.int (3 : Int32)), (.int op)])) _
          refine XS.icmpNo X38.here hx rfl (hb hby at_223) rfl (teq hc223_91).2 ?_
          show Steps p.tables e below (T38.setTop (mkF m 226 #[.val (.int p1), .val (.int p2), .val (.int p3), .val (.int p4), .val (.int kk), .val (.int op), .val (.int t0), .val (.int t1), .val (.int t2), .val (.ref b6), .val (.int f0), .val (.int f1), .val (.int f2), .unset] [])) _
          refine XS.aload X38.here hx rfl (hb hby at_226) rfl rfl ?_
          show Steps p.tables e below (T38.setTop (mkF m 228 #[.val (.int p1), .val (.int p2), .val (.int p3), .val (.int p4), .val (.int kk), .val (.int op), .val (.int t0), .val (.int t1), .val (.int t2), .val (.ref b6), .val (.int f0), .val (.int f1), .val (.int f2), .unset] [(.ref b6)])) _
          refine XS.iload X38.here hx rfl (hb hby at_228) rfl ?_
          show Steps p.tables e below (T38.setTop (mkF m 230 #[.val (.int p1), .val (.int p2), .val (.int p3), .val (.int p4), .val (.int kk), .val (.int op), .val (.int t0), .val (.int t1), .val (.int t2), .val (.ref b6), .val (.int f0), .val (.int f1), .val (.int f2), .unset] [(.int t1), (.ref b6)])) _
          refine st94 _ ?_
          show Steps p.tables e below (T94.setTop (mkF m 233 #[.val (.int p1), .val (.int p2), .val (.int p3), .val (.int p4), .val (.int kk), .val (.int op), .val (.int t0), .val (.int t1), .val (.int t2), .val (.ref b6), .val (.int f0), .val (.int f1), .val (.int f2), .unset] [(.ref bx94), (.ref b6)])) _
          refine st99.trans ?_
          show Steps p.tables e below (T99.setTop (mkF m 236 #[.val (.int p1), .val (.int p2), .val (.int p3), .val (.int p4), .val (.int kk), .val (.int op), .val (.int t0), .val (.int t1), .val (.int t2), .val (.ref b6), .val (.int f0), .val (.int f1), .val (.int f2), .unset] [(.int r99)])) _
          refine XS.pop X99.here hx rfl (hb hby at_236) rfl rfl ?_
          show Steps p.tables e below (T99.setTop (mkF m 237 #[.val (.int p1), .val (.int p2), .val (.int p3), .val (.int p4), .val (.int kk), .val (.int op), .val (.int t0), .val (.int t1), .val (.int t2), .val (.ref b6), .val (.int f0), .val (.int f1), .val (.int f2), .unset] [])) _
          refine XS.iload X99.here hx rfl (hb hby at_237) rfl ?_
          show Steps p.tables e below (T99.setTop (mkF m 239 #[.val (.int p1), .val (.int p2), .val (.int p3), .val (.int p4), .val (.int kk), .val (.int op), .val (.int t0), .val (.int t1), .val (.int t2), .val (.ref b6), .val (.int f0), .val (.int f1), .val (.int f2), .unset] [(.int f0)])) _
          exact kt_
        have pre103 : ∀ tgt, Steps p.tables e below (T99.setTop (mkF m 254 #[.val (.int p1), .val (.int p2), .val (.int p3), .val (.int p4), .val (.int kk), .val (.int op), .val (.int t0), .val (.int t1), .val (.int t2), .val (.ref b6), .val (.int f0), .val (.int f1), .val (.int f2), .unset] [(.int (if f0 = (0 : Int32) then (0 : Int32) else (if t0 = t1 then (0 : Int32) else (1 : Int32))))])) tgt → Steps p.tables e below (s₁.setTop (entryFrame m #[(.int p1), (.int p2), (.int p3), (.int p4)] maxLocals)) tgt := fun tgt kt_ => by
          refine pre102 _ ?_
          show Steps p.tables e below (T99.setTop (mkF m 239 #[.val (.int p1), .val (.int p2), .val (.int p3), .val (.int p4), .val (.int kk), .val (.int op), .val (.int t0), .val (.int t1), .val (.int t2), .val (.ref b6), .val (.int f0), .val (.int f1), .val (.int f2), .unset] [(.int f0)])) _
          rcases Decidable.em (f0 = (0 : Int32)) with hj239_100 | hj239_100
          ·
            refine XS.ifYes X99.here hx rfl (pc0 := 239) (pc' := 253) rfl (hb hby at_239) rfl ((if0 _ _).trans (teq hj239_100).1) (by decide) (by decide) ?_
            show Steps p.tables e below (T99.setTop (mkF m 253 #[.val (.int p1), .val (.int p2), .val (.int p3), .val (.int p4), .val (.int kk), .val (.int op), .val (.int t0), .val (.int t1), .val (.int t2), .val (.ref b6), .val (.int f0), .val (.int f1), .val (.int f2), .unset] [])) _
            refine XS.iconst X99.here hx rfl (hb hby at_253) ?_
            show Steps p.tables e below (T99.setTop (mkF m 254 #[.val (.int p1), .val (.int p2), .val (.int p3), .val (.int p4), .val (.int kk), .val (.int op), .val (.int t0), .val (.int t1), .val (.int t2), .val (.ref b6), .val (.int f0), .val (.int f1), .val (.int f2), .unset] [(.int (0 : Int32))])) _
            simp only [if_pos hj239_100] at kt_
            exact kt_
          ·
            refine XS.ifNo X99.here hx rfl (hb hby at_239) rfl ((if0 _ _).trans (feq hj239_100).1) ?_
            show Steps p.tables e below (T99.setTop (mkF m 242 #[.val (.int p1), .val (.int p2), .val (.int p3), .val (.int p4), .val (.int kk), .val (.int op), .val (.int t0), .val (.int t1), .val (.int t2), .val (.ref b6), .val (.int f0), .val (.int f1), .val (.int f2), .unset] [])) _
            refine XS.iload X99.here hx rfl (hb hby at_242) rfl ?_
            show Steps p.tables e below (T99.setTop (mkF m 244 #[.val (.int p1), .val (.int p2), .val (.int p3), .val (.int p4), .val (.int kk), .val (.int op), .val (.int t0), .val (.int t1), .val (.int t2), .val (.ref b6), .val (.int f0), .val (.int f1), .val (.int f2), .unset] [(.int t0)])) _
            refine XS.iload X99.here hx rfl (hb hby at_244) rfl ?_
            show Steps p.tables e below (T99.setTop (mkF m 246 #[.val (.int p1), .val (.int p2), .val (.int p3), .val (.int p4), .val (.int kk), .val (.int op), .val (.int t0), .val (.int t1), .val (.int t2), .val (.ref b6), .val (.int f0), .val (.int f1), .val (.int f2), .unset] [(.int t1), (.int t0)])) _
            rcases Decidable.em (t0 = t1) with hj246_101 | hj246_101
            ·
              refine XS.icmpYes X99.here hx rfl (pc0 := 246) (pc' := 253) rfl (hb hby at_246) rfl (teq hj246_101).1 (by decide) (by decide) ?_
              show Steps p.tables e below (T99.setTop (mkF m 253 #[.val (.int p1), .val (.int p2), .val (.int p3), .val (.int p4), .val (.int kk), .val (.int op), .val (.int t0), .val (.int t1), .val (.int t2), .val (.ref b6), .val (.int f0), .val (.int f1), .val (.int f2), .unset] [])) _
              refine XS.iconst X99.here hx rfl (hb hby at_253) ?_
              show Steps p.tables e below (T99.setTop (mkF m 254 #[.val (.int p1), .val (.int p2), .val (.int p3), .val (.int p4), .val (.int kk), .val (.int op), .val (.int t0), .val (.int t1), .val (.int t2), .val (.ref b6), .val (.int f0), .val (.int f1), .val (.int f2), .unset] [(.int (0 : Int32))])) _
              simp only [if_neg hj239_100, if_pos hj246_101] at kt_
              exact kt_
            ·
              refine XS.icmpNo X99.here hx rfl (hb hby at_246) rfl (feq hj246_101).1 ?_
              show Steps p.tables e below (T99.setTop (mkF m 249 #[.val (.int p1), .val (.int p2), .val (.int p3), .val (.int p4), .val (.int kk), .val (.int op), .val (.int t0), .val (.int t1), .val (.int t2), .val (.ref b6), .val (.int f0), .val (.int f1), .val (.int f2), .unset] [])) _
              refine XS.iconst X99.here hx rfl (hb hby at_249) ?_
              show Steps p.tables e below (T99.setTop (mkF m 250 #[.val (.int p1), .val (.int p2), .val (.int p3), .val (.int p4), .val (.int kk), .val (.int op), .val (.int t0), .val (.int t1), .val (.int t2), .val (.ref b6), .val (.int f0), .val (.int f1), .val (.int f2), .unset] [(.int (1 : Int32))])) _
              refine XS.goto X99.here hx rfl (pc0 := 250) (pc' := 254) rfl (hb hby at_250) (by decide) (by decide) ?_
              show Steps p.tables e below (T99.setTop (mkF m 254 #[.val (.int p1), .val (.int p2), .val (.int p3), .val (.int p4), .val (.int kk), .val (.int op), .val (.int t0), .val (.int t1), .val (.int t2), .val (.ref b6), .val (.int f0), .val (.int f1), .val (.int f2), .unset] [(.int (1 : Int32))])) _
              simp only [if_neg hj239_100, if_neg hj246_101] at kt_
              exact kt_
        obtain ⟨g0, hg0⟩ : ∃ z, z = (if f0 = (0 : Int32) then (0 : Int32) else (if t0 = t1 then (0 : Int32) else (1 : Int32))) := ⟨_, rfl⟩
        rw [← hg0] at pre103
        have pre106 : ∀ tgt, Steps p.tables e below (T99.setTop (mkF m 261 #[.val (.int p1), .val (.int p2), .val (.int p3), .val (.int p4), .val (.int kk), .val (.int op), .val (.int t0), .val (.int t1), .val (.int t2), .val (.ref b6), .val (.int g0), .val (.int (0 : Int32)), .val (.int f2), .unset] [(.int f2)])) tgt → Steps p.tables e below (s₁.setTop (entryFrame m #[(.int p1), (.int p2), (.int p3), (.int p4)] maxLocals)) tgt := fun tgt kt_ => by
          refine pre103 _ ?_
          show Steps p.tables e below (T99.setTop (mkF m 254 #[.val (.int p1), .val (.int p2), .val (.int p3), .val (.int p4), .val (.int kk), .val (.int op), .val (.int t0), .val (.int t1), .val (.int t2), .val (.ref b6), .val (.int f0), .val (.int f1), .val (.int f2), .unset] [(.int g0)])) _
          refine XS.istore X99.here hx rfl (hb hby at_254) rfl (l' := #[.val (.int p1), .val (.int p2), .val (.int p3), .val (.int p4), .val (.int kk), .val (.int op), .val (.int t0), .val (.int t1), .val (.int t2), .val (.ref b6), .val (.int g0), .val (.int f1), .val (.int f2), .unset]) rfl ?_
          show Steps p.tables e below (T99.setTop (mkF m 256 #[.val (.int p1), .val (.int p2), .val (.int p3), .val (.int p4), .val (.int kk), .val (.int op), .val (.int t0), .val (.int t1), .val (.int t2), .val (.ref b6), .val (.int g0), .val (.int f1), .val (.int f2), .unset] [])) _
          refine XS.iconst X99.here hx rfl (hb hby at_256) ?_
          show Steps p.tables e below (T99.setTop (mkF m 257 #[.val (.int p1), .val (.int p2), .val (.int p3), .val (.int p4), .val (.int kk), .val (.int op), .val (.int t0), .val (.int t1), .val (.int t2), .val (.ref b6), .val (.int g0), .val (.int f1), .val (.int f2), .unset] [(.int (0 : Int32))])) _
          refine XS.istore X99.here hx rfl (hb hby at_257) rfl (l' := #[.val (.int p1), .val (.int p2), .val (.int p3), .val (.int p4), .val (.int kk), .val (.int op), .val (.int t0), .val (.int t1), .val (.int t2), .val (.ref b6), .val (.int g0), .val (.int (0 : Int32)), .val (.int f2), .unset]) rfl ?_
          show Steps p.tables e below (T99.setTop (mkF m 259 #[.val (.int p1), .val (.int p2), .val (.int p3), .val (.int p4), .val (.int kk), .val (.int op), .val (.int t0), .val (.int t1), .val (.int t2), .val (.ref b6), .val (.int g0), .val (.int (0 : Int32)), .val (.int f2), .unset] [])) _
          refine XS.iload X99.here hx rfl (hb hby at_259) rfl ?_
          show Steps p.tables e below (T99.setTop (mkF m 261 #[.val (.int p1), .val (.int p2), .val (.int p3), .val (.int p4), .val (.int kk), .val (.int op), .val (.int t0), .val (.int t1), .val (.int t2), .val (.ref b6), .val (.int g0), .val (.int (0 : Int32)), .val (.int f2), .unset] [(.int f2)])) _
          exact kt_
        have pre107 : ∀ tgt, Steps p.tables e below (T99.setTop (mkF m 276 #[.val (.int p1), .val (.int p2), .val (.int p3), .val (.int p4), .val (.int kk), .val (.int op), .val (.int t0), .val (.int t1), .val (.int t2), .val (.ref b6), .val (.int g0), .val (.int (0 : Int32)), .val (.int f2), .unset] [(.int (if f2 = (0 : Int32) then (0 : Int32) else (if t2 = t1 then (0 : Int32) else (1 : Int32))))])) tgt → Steps p.tables e below (s₁.setTop (entryFrame m #[(.int p1), (.int p2), (.int p3), (.int p4)] maxLocals)) tgt := fun tgt kt_ => by
          refine pre106 _ ?_
          show Steps p.tables e below (T99.setTop (mkF m 261 #[.val (.int p1), .val (.int p2), .val (.int p3), .val (.int p4), .val (.int kk), .val (.int op), .val (.int t0), .val (.int t1), .val (.int t2), .val (.ref b6), .val (.int g0), .val (.int (0 : Int32)), .val (.int f2), .unset] [(.int f2)])) _
          rcases Decidable.em (f2 = (0 : Int32)) with hj261_104 | hj261_104
          ·
            refine XS.ifYes X99.here hx rfl (pc0 := 261) (pc' := 275) rfl (hb hby at_261) rfl ((if0 _ _).trans (teq hj261_104).1) (by decide) (by decide) ?_
            show Steps p.tables e below (T99.setTop (mkF m 275 #[.val (.int p1), .val (.int p2), .val (.int p3), .val (.int p4), .val (.int kk), .val (.int op), .val (.int t0), .val (.int t1), .val (.int t2), .val (.ref b6), .val (.int g0), .val (.int (0 : Int32)), .val (.int f2), .unset] [])) _
            refine XS.iconst X99.here hx rfl (hb hby at_275) ?_
            show Steps p.tables e below (T99.setTop (mkF m 276 #[.val (.int p1), .val (.int p2), .val (.int p3), .val (.int p4), .val (.int kk), .val (.int op), .val (.int t0), .val (.int t1), .val (.int t2), .val (.ref b6), .val (.int g0), .val (.int (0 : Int32)), .val (.int f2), .unset] [(.int (0 : Int32))])) _
            simp only [if_pos hj261_104] at kt_
            exact kt_
          ·
            refine XS.ifNo X99.here hx rfl (hb hby at_261) rfl ((if0 _ _).trans (feq hj261_104).1) ?_
            show Steps p.tables e below (T99.setTop (mkF m 264 #[.val (.int p1), .val (.int p2), .val (.int p3), .val (.int p4), .val (.int kk), .val (.int op), .val (.int t0), .val (.int t1), .val (.int t2), .val (.ref b6), .val (.int g0), .val (.int (0 : Int32)), .val (.int f2), .unset] [])) _
            refine XS.iload X99.here hx rfl (hb hby at_264) rfl ?_
            show Steps p.tables e below (T99.setTop (mkF m 266 #[.val (.int p1), .val (.int p2), .val (.int p3), .val (.int p4), .val (.int kk), .val (.int op), .val (.int t0), .val (.int t1), .val (.int t2), .val (.ref b6), .val (.int g0), .val (.int (0 : Int32)), .val (.int f2), .unset] [(.int t2)])) _
            refine XS.iload X99.here hx rfl (hb hby at_266) rfl ?_
            show Steps p.tables e below (T99.setTop (mkF m 268 #[.val (.int p1), .val (.int p2), .val (.int p3), .val (.int p4), .val (.int kk), .val (.int op), .val (.int t0), .val (.int t1), .val (.int t2), .val (.ref b6), .val (.int g0), .val (.int (0 : Int32)), .val (.int f2), .unset] [(.int t1), (.int t2)])) _
            rcases Decidable.em (t2 = t1) with hj268_105 | hj268_105
            ·
              refine XS.icmpYes X99.here hx rfl (pc0 := 268) (pc' := 275) rfl (hb hby at_268) rfl (teq hj268_105).1 (by decide) (by decide) ?_
              show Steps p.tables e below (T99.setTop (mkF m 275 #[.val (.int p1), .val (.int p2), .val (.int p3), .val (.int p4), .val (.int kk), .val (.int op), .val (.int t0), .val (.int t1), .val (.int t2), .val (.ref b6), .val (.int g0), .val (.int (0 : Int32)), .val (.int f2), .unset] [])) _
              refine XS.iconst X99.here hx rfl (hb hby at_275) ?_
              show Steps p.tables e below (T99.setTop (mkF m 276 #[.val (.int p1), .val (.int p2), .val (.int p3), .val (.int p4), .val (.int kk), .val (.int op), .val (.int t0), .val (.int t1), .val (.int t2), .val (.ref b6), .val (.int g0), .val (.int (0 : Int32)), .val (.int f2), .unset] [(.int (0 : Int32))])) _
              simp only [if_neg hj261_104, if_pos hj268_105] at kt_
              exact kt_
            ·
              refine XS.icmpNo X99.here hx rfl (hb hby at_268) rfl (feq hj268_105).1 ?_
              show Steps p.tables e below (T99.setTop (mkF m 271 #[.val (.int p1), .val (.int p2), .val (.int p3), .val (.int p4), .val (.int kk), .val (.int op), .val (.int t0), .val (.int t1), .val (.int t2), .val (.ref b6), .val (.int g0), .val (.int (0 : Int32)), .val (.int f2), .unset] [])) _
              refine XS.iconst X99.here hx rfl (hb hby at_271) ?_
              show Steps p.tables e below (T99.setTop (mkF m 272 #[.val (.int p1), .val (.int p2), .val (.int p3), .val (.int p4), .val (.int kk), .val (.int op), .val (.int t0), .val (.int t1), .val (.int t2), .val (.ref b6), .val (.int g0), .val (.int (0 : Int32)), .val (.int f2), .unset] [(.int (1 : Int32))])) _
              refine XS.goto X99.here hx rfl (pc0 := 272) (pc' := 276) rfl (hb hby at_272) (by decide) (by decide) ?_
              show Steps p.tables e below (T99.setTop (mkF m 276 #[.val (.int p1), .val (.int p2), .val (.int p3), .val (.int p4), .val (.int kk), .val (.int op), .val (.int t0), .val (.int t1), .val (.int t2), .val (.ref b6), .val (.int g0), .val (.int (0 : Int32)), .val (.int f2), .unset] [(.int (1 : Int32))])) _
              simp only [if_neg hj261_104, if_neg hj268_105] at kt_
              exact kt_
        obtain ⟨g2, hg2⟩ : ∃ z, z = (if f2 = (0 : Int32) then (0 : Int32) else (if t2 = t1 then (0 : Int32) else (1 : Int32))) := ⟨_, rfl⟩
        rw [← hg2] at pre107
        have pre110 : ∀ tgt, Steps p.tables e below (T99.setTop (mkF m 280 #[.val (.int p1), .val (.int p2), .val (.int p3), .val (.int p4), .val (.int kk), .val (.int op), .val (.int t0), .val (.int t1), .val (.int t2), .val (.ref b6), .val (.int g0), .val (.int (0 : Int32)), .val (.int g2), .unset] [(.int g0)])) tgt → Steps p.tables e below (s₁.setTop (entryFrame m #[(.int p1), (.int p2), (.int p3), (.int p4)] maxLocals)) tgt := fun tgt kt_ => by
          refine pre107 _ ?_
          show Steps p.tables e below (T99.setTop (mkF m 276 #[.val (.int p1), .val (.int p2), .val (.int p3), .val (.int p4), .val (.int kk), .val (.int op), .val (.int t0), .val (.int t1), .val (.int t2), .val (.ref b6), .val (.int g0), .val (.int (0 : Int32)), .val (.int f2), .unset] [(.int g2)])) _
          refine XS.istore X99.here hx rfl (hb hby at_276) rfl (l' := #[.val (.int p1), .val (.int p2), .val (.int p3), .val (.int p4), .val (.int kk), .val (.int op), .val (.int t0), .val (.int t1), .val (.int t2), .val (.ref b6), .val (.int g0), .val (.int (0 : Int32)), .val (.int g2), .unset]) rfl ?_
          show Steps p.tables e below (T99.setTop (mkF m 278 #[.val (.int p1), .val (.int p2), .val (.int p3), .val (.int p4), .val (.int kk), .val (.int op), .val (.int t0), .val (.int t1), .val (.int t2), .val (.ref b6), .val (.int g0), .val (.int (0 : Int32)), .val (.int g2), .unset] [])) _
          refine XS.iload X99.here hx rfl (hb hby at_278) rfl ?_
          show Steps p.tables e below (T99.setTop (mkF m 280 #[.val (.int p1), .val (.int p2), .val (.int p3), .val (.int p4), .val (.int kk), .val (.int op), .val (.int t0), .val (.int t1), .val (.int t2), .val (.ref b6), .val (.int g0), .val (.int (0 : Int32)), .val (.int g2), .unset] [(.int g0)])) _
          exact kt_
        have pre111 : ∀ tgt, Steps p.tables e below (T99.setTop (mkF m 298 #[.val (.int p1), .val (.int p2), .val (.int p3), .val (.int p4), .val (.int kk), .val (.int op), .val (.int t0), .val (.int t1), .val (.int t2), .val (.ref b6), .val (.int g0), .val (.int (0 : Int32)), .val (.int g2), .unset] [(.int (if g0 = (0 : Int32) then (if g2 = (0 : Int32) then (1 : Int32) else (0 : Int32)) else (0 : Int32)))])) tgt → Steps p.tables e below (s₁.setTop (entryFrame m #[(.int p1), (.int p2), (.int p3), (.int p4)] maxLocals)) tgt := fun tgt kt_ => by
          refine pre110 _ ?_
          show Steps p.tables e below (T99.setTop (mkF m 280 #[.val (.int p1), .val (.int p2), .val (.int p3), .val (.int p4), .val (.int kk), .val (.int op), .val (.int t0), .val (.int t1), .val (.int t2), .val (.ref b6), .val (.int g0), .val (.int (0 : Int32)), .val (.int g2), .unset] [(.int g0)])) _
          rcases Decidable.em (g0 = (0 : Int32)) with hj280_108 | hj280_108
          ·
            refine XS.ifNo X99.here hx rfl (hb hby at_280) rfl ((if0 _ _).trans (teq hj280_108).2) ?_
            show Steps p.tables e below (T99.setTop (mkF m 283 #[.val (.int p1), .val (.int p2), .val (.int p3), .val (.int p4), .val (.int kk), .val (.int op), .val (.int t0), .val (.int t1), .val (.int t2), .val (.ref b6), .val (.int g0), .val (.int (0 : Int32)), .val (.int g2), .unset] [])) _
            refine XS.iload X99.here hx rfl (hb hby at_283) rfl ?_
            show Steps p.tables e below (T99.setTop (mkF m 285 #[.val (.int p1), .val (.int p2), .val (.int p3), .val (.int p4), .val (.int kk), .val (.int op), .val (.int t0), .val (.int t1), .val (.int t2), .val (.ref b6), .val (.int g0), .val (.int (0 : Int32)), .val (.int g2), .unset] [(.int (0 : Int32))])) _
            refine XS.ifNo X99.here hx rfl (hb hby at_285) rfl ((if0 _ _).trans (teq (by decide : (0 : Int32) = (0 : Int32))).2) ?_
            show Steps p.tables e below (T99.setTop (mkF m 288 #[.val (.int p1), .val (.int p2), .val (.int p3), .val (.int p4), .val (.int kk), .val (.int op), .val (.int t0), .val (.int t1), .val (.int t2), .val (.ref b6), .val (.int g0), .val (.int (0 : Int32)), .val (.int g2), .unset] [])) _
            refine XS.iload X99.here hx rfl (hb hby at_288) rfl ?_
            show Steps p.tables e below (T99.setTop (mkF m 290 #[.val (.int p1), .val (.int p2), .val (.int p3), .val (.int p4), .val (.int kk), .val (.int op), .val (.int t0), .val (.int t1), .val (.int t2), .val (.ref b6), .val (.int g0), .val (.int (0 : Int32)), .val (.int g2), .unset] [(.int g2)])) _
            rcases Decidable.em (g2 = (0 : Int32)) with hj290_109 | hj290_109
            ·
              refine XS.ifNo X99.here hx rfl (hb hby at_290) rfl ((if0 _ _).trans (teq hj290_109).2) ?_
              show Steps p.tables e below (T99.setTop (mkF m 293 #[.val (.int p1), .val (.int p2), .val (.int p3), .val (.int p4), .val (.int kk), .val (.int op), .val (.int t0), .val (.int t1), .val (.int t2), .val (.ref b6), .val (.int g0), .val (.int (0 : Int32)), .val (.int g2), .unset] [])) _
              refine XS.iconst X99.here hx rfl (hb hby at_293) ?_
              show Steps p.tables e below (T99.setTop (mkF m 294 #[.val (.int p1), .val (.int p2), .val (.int p3), .val (.int p4), .val (.int kk), .val (.int op), .val (.int t0), .val (.int t1), .val (.int t2), .val (.ref b6), .val (.int g0), .val (.int (0 : Int32)), .val (.int g2), .unset] [(.int (1 : Int32))])) _
              refine XS.goto X99.here hx rfl (pc0 := 294) (pc' := 298) rfl (hb hby at_294) (by decide) (by decide) ?_
              show Steps p.tables e below (T99.setTop (mkF m 298 #[.val (.int p1), .val (.int p2), .val (.int p3), .val (.int p4), .val (.int kk), .val (.int op), .val (.int t0), .val (.int t1), .val (.int t2), .val (.ref b6), .val (.int g0), .val (.int (0 : Int32)), .val (.int g2), .unset] [(.int (1 : Int32))])) _
              simp only [if_pos hj280_108, if_pos hj290_109] at kt_
              exact kt_
            ·
              refine XS.ifYes X99.here hx rfl (pc0 := 290) (pc' := 297) rfl (hb hby at_290) rfl ((if0 _ _).trans (feq hj290_109).2) (by decide) (by decide) ?_
              show Steps p.tables e below (T99.setTop (mkF m 297 #[.val (.int p1), .val (.int p2), .val (.int p3), .val (.int p4), .val (.int kk), .val (.int op), .val (.int t0), .val (.int t1), .val (.int t2), .val (.ref b6), .val (.int g0), .val (.int (0 : Int32)), .val (.int g2), .unset] [])) _
              refine XS.iconst X99.here hx rfl (hb hby at_297) ?_
              show Steps p.tables e below (T99.setTop (mkF m 298 #[.val (.int p1), .val (.int p2), .val (.int p3), .val (.int p4), .val (.int kk), .val (.int op), .val (.int t0), .val (.int t1), .val (.int t2), .val (.ref b6), .val (.int g0), .val (.int (0 : Int32)), .val (.int g2), .unset] [(.int (0 : Int32))])) _
              simp only [if_pos hj280_108, if_neg hj290_109] at kt_
              exact kt_
          ·
            refine XS.ifYes X99.here hx rfl (pc0 := 280) (pc' := 297) rfl (hb hby at_280) rfl ((if0 _ _).trans (feq hj280_108).2) (by decide) (by decide) ?_
            show Steps p.tables e below (T99.setTop (mkF m 297 #[.val (.int p1), .val (.int p2), .val (.int p3), .val (.int p4), .val (.int kk), .val (.int op), .val (.int t0), .val (.int t1), .val (.int t2), .val (.ref b6), .val (.int g0), .val (.int (0 : Int32)), .val (.int g2), .unset] [])) _
            refine XS.iconst X99.here hx rfl (hb hby at_297) ?_
            show Steps p.tables e below (T99.setTop (mkF m 298 #[.val (.int p1), .val (.int p2), .val (.int p3), .val (.int p4), .val (.int kk), .val (.int op), .val (.int t0), .val (.int t1), .val (.int t2), .val (.ref b6), .val (.int g0), .val (.int (0 : Int32)), .val (.int g2), .unset] [(.int (0 : Int32))])) _
            simp only [if_neg hj280_108] at kt_
            exact kt_
        obtain ⟨ex, hex⟩ : ∃ z, z = (if g0 = (0 : Int32) then (if g2 = (0 : Int32) then (1 : Int32) else (0 : Int32)) else (0 : Int32)) := ⟨_, rfl⟩
        rw [← hex] at pre111
        obtain ⟨cq112, kq112, q112a, q112b, q112c⟩ := isOf hZ rfl (own_tgExa Tg99)
        obtain ⟨_, _, ⟨T112, L112, k112, n112⟩, -, X112, ⟨Lc112, hQ112, l112, y112, z112⟩, st112⟩ := X99.virtualBack hx (y := (⟨"com/example/dramatis/dramatis/analysis/RoleGraph$Targets", "isEmpty", "()Z"⟩ : MethodName)) (z := (⟨"com/example/dramatis/dramatis/analysis/RoleGraph$Targets", "isEmpty", "()Z"⟩ : MethodName)) hown (mvT hZ (hw _ (List.mem_of_getElem? (i := 24) rfl))) (mvT hZ (hw _ (List.mem_of_getElem? (i := 25) rfl))) (notFace_of_selects (args := #[]) (mvT hZ (hw _ (List.mem_of_getElem? (i := 27) rfl)))) (mvT hZ (hw _ (List.mem_of_getElem? (i := 27) rfl))) (mvT hZ (hw _ (List.mem_of_getElem? (i := 26) rfl))) (by decide) (backOf (W := 0) (rmEmp l Z a0 hw [] b6 3 (own_rm (t1 + (1 : Int32)) (own_ad (decide ((2 : Int32) < kk)) (t2 + (1 : Int32)) (own_ad (decide ((1 : Int32) < kk)) (t1 + (1 : Int32)) (own_ad (decide ((0 : Int32) < kk)) (t0 + (1 : Int32)) (fun _ => false))))) ex T99.heap n0 Zs99 Tg99 (own_ans3 in_t0 in_t2 hf0 hf2 hg0 hg2 hex)) hZ (hw _ (List.mem_of_getElem? (i := 28) rfl)) (hw _ (List.mem_of_getElem? (i := 2) rfl)) (by decide) (by decide)) q112a q112c (g := (mkF m 302 #[.val (.int p1), .val (.int p2), .val (.int p3), .val (.int p4), .val (.int kk), .val (.int op), .val (.int t0), .val (.int t1), .val (.int t2), .val (.ref b6), .val (.int g0), .val (.int (0 : Int32)), .val (.int g2), .val (.int ex)] [(.ref b6)])) rfl (by rw [hml]; rfl) (Steps.refl _) (argsL := []) (rest := []) (lenOf own_pd10 rfl) rfl (by show 2 * 0 + _ ≤ _; exact Nat.le_of_eq rfl) (hb hby at_302) (fun _ _ => ⟨rfl, rfl, (by decide : 8 + 0 ≤ _), (by decide : 52 + 0 ≤ _)⟩)
        dsimp only [Pt.U, Pt.locs, Pt.cells, Pt.slots] at X112 l112 y112 z112 st112 hQ112
        subst l112 y112 z112
        obtain ⟨rfl, N112q, eq112⟩ := hQ112
        have N112 := Fr.app N99 N112q
        obtain ⟨fs, hr, hrun, hended, hW, hsame⟩ := X112.leave (v := some (.int (1 : Int32))) (fun h => by rw [Bd.returns] at h; cases h)
        refine ⟨_, _, pre111 _ ?_, hrun, hended, _, _, rfl, ?_, ⟨_, rfl⟩, hW, hsame.mono (by decide) (by decide)⟩
        ·
          show Steps p.tables e below (T99.setTop (mkF m 298 #[.val (.int p1), .val (.int p2), .val (.int p3), .val (.int p4), .val (.int kk), .val (.int op), .val (.int t0), .val (.int t1), .val (.int t2), .val (.ref b6), .val (.int g0), .val (.int (0 : Int32)), .val (.int g2), .unset] [(.int ex)])) _
          refine XS.istore X99.here hx rfl (hb hby at_298) rfl (l' := #[.val (.int p1), .val (.int p2), .val (.int p3), .val (.int p4), .val (.int kk), .val (.int op), .val (.int t0), .val (.int t1), .val (.int t2), .val (.ref b6), .val (.int g0), .val (.int (0 : Int32)), .val (.int g2), .val (.int ex)]) rfl ?_
          show Steps p.tables e below (T99.setTop (mkF m 300 #[.val (.int p1), .val (.int p2), .val (.int p3), .val (.int p4), .val (.int kk), .val (.int op), .val (.int t0), .val (.int t1), .val (.int t2), .val (.ref b6), .val (.int g0), .val (.int (0 : Int32)), .val (.int g2), .val (.int ex)] [])) _
          refine XS.aload X99.here hx rfl (hb hby at_300) rfl rfl ?_
          show Steps p.tables e below (T99.setTop (mkF m 302 #[.val (.int p1), .val (.int p2), .val (.int p3), .val (.int p4), .val (.int kk), .val (.int op), .val (.int t0), .val (.int t1), .val (.int t2), .val (.ref b6), .val (.int g0), .val (.int (0 : Int32)), .val (.int g2), .val (.int ex)] [(.ref b6)])) _
          refine st112.trans ?_
          show Steps p.tables e below (T112.setTop (mkF m 305 #[.val (.int p1), .val (.int p2), .val (.int p3), .val (.int p4), .val (.int kk), .val (.int op), .val (.int t0), .val (.int t1), .val (.int t2), .val (.ref b6), .val (.int g0), .val (.int (0 : Int32)), .val (.int g2), .val (.int ex)] [(.int ex)])) _
          refine XS.iload X112.here hx rfl (hb hby at_305) rfl ?_
          show Steps p.tables e below (T112.setTop (mkF m 307 #[.val (.int p1), .val (.int p2), .val (.int p3), .val (.int p4), .val (.int kk), .val (.int op), .val (.int t0), .val (.int t1), .val (.int t2), .val (.ref b6), .val (.int g0), .val (.int (0 : Int32)), .val (.int g2), .val (.int ex)] [(.int ex), (.int ex)])) _
          refine XS.icmpNo X112.here hx rfl (hb hby at_307) rfl (teq (rfl : ex = ex)).2 ?_
          show Steps p.tables e below (T112.setTop (mkF m 310 #[.val (.int p1), .val (.int p2), .val (.int p3), .val (.int p4), .val (.int kk), .val (.int op), .val (.int t0), .val (.int t1), .val (.int t2), .val (.ref b6), .val (.int g0), .val (.int (0 : Int32)), .val (.int g2), .val (.int ex)] [])) _
          refine XS.iconst X112.here hx rfl (hb hby at_310) ?_
          show Steps p.tables e below (T112.setTop (mkF m 311 #[.val (.int p1), .val (.int p2), .val (.int p3), .val (.int p4), .val (.int kk), .val (.int op), .val (.int t0), .val (.int t1), .val (.int t2), .val (.ref b6), .val (.int g0), .val (.int (0 : Int32)), .val (.int g2), .val (.int ex)] [(.int (1 : Int32))])) _
          refine XS.goto X112.here hx rfl (pc0 := 311) (pc' := 315) rfl (hb hby at_311) (by decide) (by decide) ?_
          show Steps p.tables e below (T112.setTop (mkF m 315 #[.val (.int p1), .val (.int p2), .val (.int p3), .val (.int p4), .val (.int kk), .val (.int op), .val (.int t0), .val (.int t1), .val (.int t2), .val (.ref b6), .val (.int g0), .val (.int (0 : Int32)), .val (.int g2), .val (.int ex)] [(.int (1 : Int32))])) _
          exact retN X112 hx (t := .boolean) Bd.returns (by simp) (hb hby at_315) hr
        ·
          show Q_rm0 Z p1 p2 p3 p4 ca cc nw kn h0 n0 (_) T112.heap (_)
          rw [eq112]
          exact ⟨rfl, N112⟩
      ·
        have pre116 : ∀ tgt, Steps p.tables e below (T38.setTop (mkF m 280 #[.val (.int p1), .val (.int p2), .val (.int p3), .val (.int p4), .val (.int kk), .val (.int op), .val (.int t0), .val (.int t1), .val (.int t2), .val (.ref b6), .val (.int f0), .val (.int f1), .val (.int f2), .unset] [(.int f0)])) tgt → Steps p.tables e below (s₁.setTop (entryFrame m #[(.int p1), (.int p2), (.int p3), (.int p4)] maxLocals)) tgt := fun tgt kt_ => by
          refine pre90 _ ?_
          show Steps p.tables e below (T38.setTop (mkF m 223 #[.val (.int p1), .val (.int p2), .val (.int p3), .val (.int p4), .val (.int kk), .val (.int op), .val (.int t0), .val (.int t1), .val (.int t2), .val (.ref b6), .val (.int f0), .val (.int f1), .val (.int f2), .unset] [(.int (3 : Int32)), (.int op)])) _
          refine XS.icmpYes X38.here hx rfl (pc0 := 223) (pc' := 278) rfl (hb hby at_223) rfl (feq hc223_91).2 (by decide) (by decide) ?_
          show Steps p.tables e below (T38.setTop (mkF m 278 #[.val (.int p1), .val (.int p2), .val (.int p3), .val (.int p4), .val (.int kk), .val (.int op), .val (.int t0), .val (.int t1), .val (.int t2), .val (.ref b6), .val (.int f0), .val (.int f1), .val (.int f2), .unset] [])) _
          refine XS.iload X38.here hx rfl (hb hby at_278) rfl ?_
          show Steps p.tables e below (T38.setTop (mkF m 280 #[.val (.int p1), .val (.int p2), .val (.int p3), .val (.int p4), .val (.int kk), .val (.int op), .val (.int t0), .val (.int t1), .val (.int t2), .val (.ref b6), .val (.int f0), .val (.int f1), .val (.int f2), .unset] [(.int f0)])) _
          exact kt_
        have pre117 : ∀ tgt, Steps p.tables e below (T38.setTop (mkF m 298 #[.val (.int p1), .val (.int p2), .val (.int p3), .val (.int p4), .val (.int kk), .val (.int op), .val (.int t0), .val (.int t1), .val (.int t2), .val (.ref b6), .val (.int f0), .val (.int f1), .val (.int f2), .unset] [(.int (if f0 = (0 : Int32) then (if f1 = (0 : Int32) then (if f2 = (0 : Int32) then (1 : Int32) else (0 : Int32)) else (0 : Int32)) else (0 : Int32)))])) tgt → Steps p.tables e below (s₁.setTop (entryFrame m #[(.int p1), (.int p2), (.int p3), (.int p4)] maxLocals)) tgt := fun tgt kt_ => by
          refine pre116 _ ?_
          show Steps p.tables e below (T38.setTop (mkF m 280 #[.val (.int p1), .val (.int p2), .val (.int p3), .val (.int p4), .val (.int kk), .val (.int op), .val (.int t0), .val (.int t1), .val (.int t2), .val (.ref b6), .val (.int f0), .val (.int f1), .val (.int f2), .unset] [(.int f0)])) _
          rcases Decidable.em (f0 = (0 : Int32)) with hj280_113 | hj280_113
          ·
            refine XS.ifNo X38.here hx rfl (hb hby at_280) rfl ((if0 _ _).trans (teq hj280_113).2) ?_
            show Steps p.tables e below (T38.setTop (mkF m 283 #[.val (.int p1), .val (.int p2), .val (.int p3), .val (.int p4), .val (.int kk), .val (.int op), .val (.int t0), .val (.int t1), .val (.int t2), .val (.ref b6), .val (.int f0), .val (.int f1), .val (.int f2), .unset] [])) _
            refine XS.iload X38.here hx rfl (hb hby at_283) rfl ?_
            show Steps p.tables e below (T38.setTop (mkF m 285 #[.val (.int p1), .val (.int p2), .val (.int p3), .val (.int p4), .val (.int kk), .val (.int op), .val (.int t0), .val (.int t1), .val (.int t2), .val (.ref b6), .val (.int f0), .val (.int f1), .val (.int f2), .unset] [(.int f1)])) _
            rcases Decidable.em (f1 = (0 : Int32)) with hj285_114 | hj285_114
            ·
              refine XS.ifNo X38.here hx rfl (hb hby at_285) rfl ((if0 _ _).trans (teq hj285_114).2) ?_
              show Steps p.tables e below (T38.setTop (mkF m 288 #[.val (.int p1), .val (.int p2), .val (.int p3), .val (.int p4), .val (.int kk), .val (.int op), .val (.int t0), .val (.int t1), .val (.int t2), .val (.ref b6), .val (.int f0), .val (.int f1), .val (.int f2), .unset] [])) _
              refine XS.iload X38.here hx rfl (hb hby at_288) rfl ?_
              show Steps p.tables e below (T38.setTop (mkF m 290 #[.val (.int p1), .val (.int p2), .val (.int p3), .val (.int p4), .val (.int kk), .val (.int op), .val (.int t0), .val (.int t1), .val (.int t2), .val (.ref b6), .val (.int f0), .val (.int f1), .val (.int f2), .unset] [(.int f2)])) _
              rcases Decidable.em (f2 = (0 : Int32)) with hj290_115 | hj290_115
              ·
                refine XS.ifNo X38.here hx rfl (hb hby at_290) rfl ((if0 _ _).trans (teq hj290_115).2) ?_
                show Steps p.tables e below (T38.setTop (mkF m 293 #[.val (.int p1), .val (.int p2), .val (.int p3), .val (.int p4), .val (.int kk), .val (.int op), .val (.int t0), .val (.int t1), .val (.int t2), .val (.ref b6), .val (.int f0), .val (.int f1), .val (.int f2), .unset] [])) _
                refine XS.iconst X38.here hx rfl (hb hby at_293) ?_
                show Steps p.tables e below (T38.setTop (mkF m 294 #[.val (.int p1), .val (.int p2), .val (.int p3), .val (.int p4), .val (.int kk), .val (.int op), .val (.int t0), .val (.int t1), .val (.int t2), .val (.ref b6), .val (.int f0), .val (.int f1), .val (.int f2), .unset] [(.int (1 : Int32))])) _
                refine XS.goto X38.here hx rfl (pc0 := 294) (pc' := 298) rfl (hb hby at_294) (by decide) (by decide) ?_
                show Steps p.tables e below (T38.setTop (mkF m 298 #[.val (.int p1), .val (.int p2), .val (.int p3), .val (.int p4), .val (.int kk), .val (.int op), .val (.int t0), .val (.int t1), .val (.int t2), .val (.ref b6), .val (.int f0), .val (.int f1), .val (.int f2), .unset] [(.int (1 : Int32))])) _
                simp only [if_pos hj280_113, if_pos hj285_114, if_pos hj290_115] at kt_
                exact kt_
              ·
                refine XS.ifYes X38.here hx rfl (pc0 := 290) (pc' := 297) rfl (hb hby at_290) rfl ((if0 _ _).trans (feq hj290_115).2) (by decide) (by decide) ?_
                show Steps p.tables e below (T38.setTop (mkF m 297 #[.val (.int p1), .val (.int p2), .val (.int p3), .val (.int p4), .val (.int kk), .val (.int op), .val (.int t0), .val (.int t1), .val (.int t2), .val (.ref b6), .val (.int f0), .val (.int f1), .val (.int f2), .unset] [])) _
                refine XS.iconst X38.here hx rfl (hb hby at_297) ?_
                show Steps p.tables e below (T38.setTop (mkF m 298 #[.val (.int p1), .val (.int p2), .val (.int p3), .val (.int p4), .val (.int kk), .val (.int op), .val (.int t0), .val (.int t1), .val (.int t2), .val (.ref b6), .val (.int f0), .val (.int f1), .val (.int f2), .unset] [(.int (0 : Int32))])) _
                simp only [if_pos hj280_113, if_pos hj285_114, if_neg hj290_115] at kt_
                exact kt_
            ·
              refine XS.ifYes X38.here hx rfl (pc0 := 285) (pc' := 297) rfl (hb hby at_285) rfl ((if0 _ _).trans (feq hj285_114).2) (by decide) (by decide) ?_
              show Steps p.tables e below (T38.setTop (mkF m 297 #[.val (.int p1), .val (.int p2), .val (.int p3), .val (.int p4), .val (.int kk), .val (.int op), .val (.int t0), .val (.int t1), .val (.int t2), .val (.ref b6), .val (.int f0), .val (.int f1), .val (.int f2), .unset] [])) _
              refine XS.iconst X38.here hx rfl (hb hby at_297) ?_
              show Steps p.tables e below (T38.setTop (mkF m 298 #[.val (.int p1), .val (.int p2), .val (.int p3), .val (.int p4), .val (.int kk), .val (.int op), .val (.int t0), .val (.int t1), .val (.int t2), .val (.ref b6), .val (.int f0), .val (.int f1), .val (.int f2), .unset] [(.int (0 : Int32))])) _
              simp only [if_pos hj280_113, if_neg hj285_114] at kt_
              exact kt_
          ·
            refine XS.ifYes X38.here hx rfl (pc0 := 280) (pc' := 297) rfl (hb hby at_280) rfl ((if0 _ _).trans (feq hj280_113).2) (by decide) (by decide) ?_
            show Steps p.tables e below (T38.setTop (mkF m 297 #[.val (.int p1), .val (.int p2), .val (.int p3), .val (.int p4), .val (.int kk), .val (.int op), .val (.int t0), .val (.int t1), .val (.int t2), .val (.ref b6), .val (.int f0), .val (.int f1), .val (.int f2), .unset] [])) _
            refine XS.iconst X38.here hx rfl (hb hby at_297) ?_
            show Steps p.tables e below (T38.setTop (mkF m 298 #[.val (.int p1), .val (.int p2), .val (.int p3), .val (.int p4), .val (.int kk), .val (.int op), .val (.int t0), .val (.int t1), .val (.int t2), .val (.ref b6), .val (.int f0), .val (.int f1), .val (.int f2), .unset] [(.int (0 : Int32))])) _
            simp only [if_neg hj280_113] at kt_
            exact kt_
        obtain ⟨ex, hex⟩ : ∃ z, z = (if f0 = (0 : Int32) then (if f1 = (0 : Int32) then (if f2 = (0 : Int32) then (1 : Int32) else (0 : Int32)) else (0 : Int32)) else (0 : Int32)) := ⟨_, rfl⟩
        rw [← hex] at pre117
        obtain ⟨cq118, kq118, q118a, q118b, q118c⟩ := isOf hZ rfl (own_tgExa Tj2)
        obtain ⟨_, _, ⟨T118, L118, k118, n118⟩, -, X118, ⟨Lc118, hQ118, l118, y118, z118⟩, st118⟩ := X38.virtualBack hx (y := (⟨"com/example/dramatis/dramatis/analysis/RoleGraph$Targets", "isEmpty", "()Z"⟩ : MethodName)) (z := (⟨"com/example/dramatis/dramatis/analysis/RoleGraph$Targets", "isEmpty", "()Z"⟩ : MethodName)) hown (mvT hZ (hw _ (List.mem_of_getElem? (i := 24) rfl))) (mvT hZ (hw _ (List.mem_of_getElem? (i := 25) rfl))) (notFace_of_selects (args := #[]) (mvT hZ (hw _ (List.mem_of_getElem? (i := 27) rfl)))) (mvT hZ (hw _ (List.mem_of_getElem? (i := 27) rfl))) (mvT hZ (hw _ (List.mem_of_getElem? (i := 26) rfl))) (by decide) (backOf (W := 0) (rmEmp l Z a0 hw [] b6 3 (own_ad (decide ((2 : Int32) < kk)) (t2 + (1 : Int32)) (own_ad (decide ((1 : Int32) < kk)) (t1 + (1 : Int32)) (own_ad (decide ((0 : Int32) < kk)) (t0 + (1 : Int32)) (fun _ => false)))) ex T38.heap n0 Zs38 Tj2 (own_ans0 in_t0 hf0 hf1 hf2 hex)) hZ (hw _ (List.mem_of_getElem? (i := 28) rfl)) (hw _ (List.mem_of_getElem? (i := 2) rfl)) (by decide) (by decide)) q118a q118c (g := (mkF m 302 #[.val (.int p1), .val (.int p2), .val (.int p3), .val (.int p4), .val (.int kk), .val (.int op), .val (.int t0), .val (.int t1), .val (.int t2), .val (.ref b6), .val (.int f0), .val (.int f1), .val (.int f2), .val (.int ex)] [(.ref b6)])) rfl (by rw [hml]; rfl) (Steps.refl _) (argsL := []) (rest := []) (lenOf own_pd10 rfl) rfl (by show 2 * 0 + _ ≤ _; exact Nat.le_of_eq rfl) (hb hby at_302) (fun _ _ => ⟨rfl, rfl, (by decide : 7 + 0 ≤ _), (by decide : 51 + 0 ≤ _)⟩)
        dsimp only [Pt.U, Pt.locs, Pt.cells, Pt.slots] at X118 l118 y118 z118 st118 hQ118
        subst l118 y118 z118
        obtain ⟨rfl, N118q, eq118⟩ := hQ118
        have N118 := Fr.app N38 N118q
        obtain ⟨fs, hr, hrun, hended, hW, hsame⟩ := X118.leave (v := some (.int (1 : Int32))) (fun h => by rw [Bd.returns] at h; cases h)
        refine ⟨_, _, pre117 _ ?_, hrun, hended, _, _, rfl, ?_, ⟨_, rfl⟩, hW, hsame.mono (by decide) (by decide)⟩
        ·
          show Steps p.tables e below (T38.setTop (mkF m 298 #[.val (.int p1), .val (.int p2), .val (.int p3), .val (.int p4), .val (.int kk), .val (.int op), .val (.int t0), .val (.int t1), .val (.int t2), .val (.ref b6), .val (.int f0), .val (.int f1), .val (.int f2), .unset] [(.int ex)])) _
          refine XS.istore X38.here hx rfl (hb hby at_298) rfl (l' := #[.val (.int p1), .val (.int p2), .val (.int p3), .val (.int p4), .val (.int kk), .val (.int op), .val (.int t0), .val (.int t1), .val (.int t2), .val (.ref b6), .val (.int f0), .val (.int f1), .val (.int f2), .val (.int ex)]) rfl ?_
          show Steps p.tables e below (T38.setTop (mkF m 300 #[.val (.int p1), .val (.int p2), .val (.int p3), .val (.int p4), .val (.int kk), .val (.int op), .val (.int t0), .val (.int t1), .val (.int t2), .val (.ref b6), .val (.int f0), .val (.int f1), .val (.int f2), .val (.int ex)] [])) _
          refine XS.aload X38.here hx rfl (hb hby at_300) rfl rfl ?_
          show Steps p.tables e below (T38.setTop (mkF m 302 #[.val (.int p1), .val (.int p2), .val (.int p3), .val (.int p4), .val (.int kk), .val (.int op), .val (.int t0), .val (.int t1), .val (.int t2), .val (.ref b6), .val (.int f0), .val (.int f1), .val (.int f2), .val (.int ex)] [(.ref b6)])) _
          refine st118.trans ?_
          show Steps p.tables e below (T118.setTop (mkF m 305 #[.val (.int p1), .val (.int p2), .val (.int p3), .val (.int p4), .val (.int kk), .val (.int op), .val (.int t0), .val (.int t1), .val (.int t2), .val (.ref b6), .val (.int f0), .val (.int f1), .val (.int f2), .val (.int ex)] [(.int ex)])) _
          refine XS.iload X118.here hx rfl (hb hby at_305) rfl ?_
          show Steps p.tables e below (T118.setTop (mkF m 307 #[.val (.int p1), .val (.int p2), .val (.int p3), .val (.int p4), .val (.int kk), .val (.int op), .val (.int t0), .val (.int t1), .val (.int t2), .val (.ref b6), .val (.int f0), .val (.int f1), .val (.int f2), .val (.int ex)] [(.int ex), (.int ex)])) _
          refine XS.icmpNo X118.here hx rfl (hb hby at_307) rfl (teq (rfl : ex = ex)).2 ?_
          show Steps p.tables e below (T118.setTop (mkF m 310 #[.val (.int p1), .val (.int p2), .val (.int p3), .val (.int p4), .val (.int kk), .val (.int op), .val (.int t0), .val (.int t1), .val (.int t2), .val (.ref b6), .val (.int f0), .val (.int f1), .val (.int f2), .val (.int ex)] [])) _
          refine XS.iconst X118.here hx rfl (hb hby at_310) ?_
          show Steps p.tables e below (T118.setTop (mkF m 311 #[.val (.int p1), .val (.int p2), .val (.int p3), .val (.int p4), .val (.int kk), .val (.int op), .val (.int t0), .val (.int t1), .val (.int t2), .val (.ref b6), .val (.int f0), .val (.int f1), .val (.int f2), .val (.int ex)] [(.int (1 : Int32))])) _
          refine XS.goto X118.here hx rfl (pc0 := 311) (pc' := 315) rfl (hb hby at_311) (by decide) (by decide) ?_
          show Steps p.tables e below (T118.setTop (mkF m 315 #[.val (.int p1), .val (.int p2), .val (.int p3), .val (.int p4), .val (.int kk), .val (.int op), .val (.int t0), .val (.int t1), .val (.int t2), .val (.ref b6), .val (.int f0), .val (.int f1), .val (.int f2), .val (.int ex)] [(.int (1 : Int32))])) _
          exact retN X118 hx (t := .boolean) Bd.returns (by simp) (hb hby at_315) hr
        ·
          show Q_rm0 Z p1 p2 p3 p4 ca cc nw kn h0 n0 (_) T118.heap (_)
          rw [eq118]
          exact ⟨rfl, N118⟩
set_option maxRecDepth 65536 in
set_option maxHeartbeats 40000000 in
theorem comes_1 {Post : Tables → Env → Array Value → State → Outcome → State → Prop} (hpost : ∀ tb e args s v u, (limb_1_1.after args s (.returned v) u = true ∧ limb_1_2.after args s (.returned v) u = true ∧ True) → FrameEnd s (.returned v) u (Jvm.fieldLocs frame_1_writes args s ++ Jvm.arrayLocs frame_1_arrays args s ++ Jvm.staticLocs frame_1_statics s) 24 192 → Post tb e args s (.returned v) u) :
    ArmFor flags0 classFile x code maxLocals ret World_1 tables_1 room_1 Calls_1 rest_1 Pre_1 Post := by
  intro l hfl _ _ p e ha hc hk s m args below hf hA hF happ hP
  obtain ⟨hcalls, hrest, hpre⟩ := hP
  obtain ⟨-, -, -, hnamed, -, -, -, hat⟩ := (Spec.applies_iff hf).mp happ
  obtain ⟨hg, hn⟩ := and_e (Cond.before_iff.mp (show (Jvm.Cond.and given_1 narrow_1).before args s = true from hpre))
  obtain ⟨g1, g2⟩ := and_e hg
  obtain ⟨g3, g4⟩ := and_e g2
  obtain ⟨g5, g6⟩ := and_e g4
  obtain ⟨g7, g8⟩ := and_e g6
  obtain ⟨w0, w1, w2, w3, rfl⟩ : ∃ w0 w1 w2 w3 : Value, args = #[w0, w1, w2, w3] := by
    have hs : args.size = 4 := by simpa [Cond.value, given_1] using g1
    obtain ⟨L⟩ := args
    match L, hs with
    | [w0, w1, w2, w3], _ => exact ⟨w0, w1, w2, w3, rfl⟩
  have hw := fun d (hd : d ∈ tables_1) => atoms_spec (ws := Jvm.Cond.code x code maxLocals ret :: tables_1) hat d (List.mem_cons_of_mem _ hd)
  have hfit : Fit s := fun {y c} hc i hi => by
    obtain ⟨ha, rfl⟩ := Array.getElem?_eq_some_iff.mp hc
    have q := List.all_eq_true.mp ((Array.all_eq_true_iff_forall_mem.mp hF) _ (Array.getElem_mem ha)) i (List.mem_range.mpr hi)
    simpa [Array.getElem?_eq_getElem hi] using q
  obtain ⟨hsets, hown0⟩ := atoms_of _ (rest_1_c_eq ▸ (show rest_1_c.before _ s = true from hrest))
  have hr0 := Cond.before_iff.mp hown0
  obtain ⟨i0, ei0⟩ := is_v g3
  obtain rfl : w0 = (.int i0) := Option.some.inj ei0
  obtain ⟨i1, ei1⟩ := is_v g5
  obtain rfl : w1 = (.int i1) := Option.some.inj ei1
  obtain ⟨i2, ei2⟩ := is_v g7
  obtain rfl : w2 = (.int i2) := Option.some.inj ei2
  obtain ⟨i3, ei3⟩ := is_v g8
  obtain rfl : w3 = (.int i3) := Option.some.inj ei3
  obtain ⟨g9, g10⟩ := and_e hn
  obtain ⟨g11, g12⟩ := and_e g10
  have eh := own_eqI (Cond.before_iff.mp (hsets _ (List.mem_of_getElem? (i := 3) rfl)))
  have SH := Sta.start eh (Or.inr ⟨(hw _ (List.mem_of_getElem? (i := 36) rfl)), (hsets _ (List.mem_of_getElem? (i := 0) rfl))⟩)
  have hca := Cond.before_iff.mp (hsets _ (List.mem_of_getElem? (i := 4) rfl))
  obtain ⟨ca, eca⟩ := arr_v hca
  have SC := Sta.start eca (Or.inr ⟨(hw _ (List.mem_of_getElem? (i := 36) rfl)), (hsets _ (List.mem_of_getElem? (i := 2) rfl))⟩)
  obtain ⟨cc, Ac⟩ := Arr.start eca hca
  have hcl := Cond.before_iff.mp (hsets _ (List.mem_of_getElem? (i := 6) rfl))
  have hcz := own_len eca Ac hcl
  have hc31 := own_len31 eca Ac hcl
  have BX : Bxs s ca cc "java/lang/Integer" "I" 256 (fun j => .int (j - 128)) := Bxs.start (fun _ => eca) Ac hc31 hcz (by decide) (Cond.before_iff.mp (hsets _ (List.mem_of_getElem? (i := 7) rfl))) (fun X j hj hX => eqv_i (by simp only [Jvm.Term.eval, (back32 hj).1, List.getElem?_cons_zero, Option.map_some, Option.bind_some, Option.bind_eq_bind]; rfl) hX)
  obtain ⟨nw, enw⟩ := arr_v g9
  have SN := Sta.start enw (Or.inr ⟨(hw _ (List.mem_of_getElem? (i := 2) rfl)), (hw _ (List.mem_of_getElem? (i := 21) rfl))⟩)
  obtain ⟨cn, An⟩ := Arr.start enw g9
  have hnz := own_len enw An g12
  have hn31 := own_len31 enw An g12
  have NW : Arv s s.heap nw cn.cls .long 0 [] (.long (0 : Int64)) := Arv.start hfit An hn31 hnz (by decide) (by decide) trivial
  obtain ⟨n, o, h1, h2, h3, _, L, rfl, ⟨rfl, N⟩, hq⟩ := rm0 l s _ hw tables_1 i0 i1 i2 i3 ca cc nw cn.cls s.heap s.heap.size (Nat.le_refl _) (Old.start s) SH SC BX SN NW p e ha hc hk s m _ below hf ((Spec.applies_iff_loose hf).mp happ).1 ⟨rfl, State.Warmed39.refl s, rfl⟩ trivial
  refine ⟨n, _, h1, h2, h3, hpost _ _ _ _ _ _ ⟨Cond.after_iff.mpr rfl, Cond.after_iff.mpr (eq_i res_at (Term.int_eval (1)) rfl), trivial⟩ ⟨hq.1, hq.2.1, (hq.2.2.sift fun y hy => Or.inr (N y hy)).mono (by decide) (by decide)⟩⟩
theorem main_1_1 : Claimed_1_1 := comes_1 fun _ _ _ _ _ _ h hF => ⟨h.1, hF⟩
theorem main_1_2 : Claimed_1_2 := comes_1 fun _ _ _ _ _ _ h hF => ⟨h.2.1, hF⟩
end Jvm.Pilot.@@N@@
namespace Jvm.Pilot.@@N@@
open Jvm Jvm.ClassFile Sem Op Lib Jvm.Free Jvm.Stand Jvm.Pilot.@@N@@.Jvm.D
/-! MADE BY PROGRAM (witnessworld.py) out of the Statement's table words and the real class files: 26 classes; the members and pool entries that the words name. The judged class is class 1, her method 1. -/
namespace start1
open Jvm.ClassFile
def u (s : String) : CpInfo := .utf8 (stringToUtf16 s)
/-- a pool by its gaps: so many unusable entries, then the entry; so many at the end -/
def gap : Nat → List CpInfo → List CpInfo
  | 0, r => r
  | n + 1, r => .unusable :: gap n r
def poolList (es : List (Nat × CpInfo)) (last : Nat) : List CpInfo := es.foldr (fun e r => gap e.1 (e.2 :: r)) (gap last [])
def pool (es : List (Nat × CpInfo)) (last : Nat) : Array CpInfo := ⟨poolList es last⟩
def fileOf (pool : Array CpInfo) (this : Nat) (attrs : Array Attribute := #[]) (ms : Array MethodInfo := #[]) (fl : Nat := 33) (sup : Nat := 0) (ifs : Array Nat := #[]) (fds : Array FieldInfo := #[]) : ClassFile where
  minorVersion := 0
  majorVersion := 65
  constantPool := pool
  accessFlags := fl
  thisClass := this
  superClass := sup
  interfaces := ifs
  fields := fds
  methods := ms
  attributes := attrs
def plain (name : String) (sup : Option ClassId) : Class where
  name := name
  kind := .ordinary
  loader := none
  accessFlags := 33
  super := sup
  interfaces := #[]
  cf := none
  fields := #[]
  methods := #[]
  instanceTypes := #[]
  staticTypes := #[]
  resolved := #[]
  callSites := []
  init := .initialized
  statics := none
  mirror := none

def pool0 : Array CpInfo := pool [(5, u "<init>"), (0, u "()V"), (1, .class_ 10), (1, u "java/lang/Object")] 113

def k0c0 : Code := { maxStack := 0, maxLocals := 1, code := object_method_1_code, exceptionTable := #[], attributes := #[] }
def k0m0 : Method := { name := "<init>", desc := "()V", sig := { parameters := [], returnType := none }, accessFlags := 1, code := some k0c0 }
/-- java/lang/Object -/
def k0 : Class := { plain "java/lang/Object" none with
  accessFlags := 33
  interfaces := #[]
  cf := some (fileOf pool0 8 #[] #[{ accessFlags := 1, nameIndex := 5, descriptorIndex := 6, attributes := #[] }] 33 0 #[] #[])
  fields := #[]
  methods := #[k0m0]
  instanceTypes := #[]
  staticTypes := #[]
  resolved := Array.replicate 124 none
  statics := none }

def pool1 : Array CpInfo := pool [(2, .class_ 4), (0, .nameAndType 5 6), (0, u "java/lang/Object"), (0, u "<init>"), (0, u "()V"), (0, .class_ 8), (0, u "com/example/dramatis/dramatis/analysis/RoleGraph$Targets"), (0, .methodref 7 3), (0, .methodref 11 12), (0, .class_ 13), (0, .nameAndType 14 15), (0, u "java/lang/Integer"), (0, u "valueOf"), (0, u "(I)Ljava/lang/Integer;"), (0, .methodref 7 17), (0, .nameAndType 18 19), (0, u "add"), (0, u "(Ljava/lang/Integer;)Z"), (0, .methodref 7 21), (0, .nameAndType 22 23), (0, u "remove"), (0, u "(Ljava/lang/Object;)Z"), (0, .methodref 7 25), (0, .nameAndType 26 6), (0, u "clear"), (0, .methodref 7 28), (0, .nameAndType 29 30), (0, u "isEmpty"), (0, u "()Z"), (0, .class_ 32), (0, u "com/example/dramatis/dramatis/analysis/TargetsIsEmptyPinLaw"), (2, u "law"), (0, u "(IIII)Z")] 7

def k1m0 : Method := { name := "<init>", desc := "()V", sig := { parameters := [], returnType := none }, accessFlags := 1, code := none }
def k1c1 : Code := { maxStack := 2, maxLocals := 14, code := code, exceptionTable := #[], attributes := #[] }
def k1m1 : Method := { name := "law", desc := "(IIII)Z", sig := { parameters := [.int, .int, .int, .int], returnType := some .boolean }, accessFlags := 9, code := some k1c1 }
/-- com/example/dramatis/dramatis/analysis/TargetsIsEmptyPinLaw -/
def k1 : Class := { plain "com/example/dramatis/dramatis/analysis/TargetsIsEmptyPinLaw" (some 0) with
  accessFlags := 49
  interfaces := #[]
  cf := some (fileOf pool1 31 #[] #[{ accessFlags := 1, nameIndex := 5, descriptorIndex := 6, attributes := #[] }, { accessFlags := 9, nameIndex := 35, descriptorIndex := 36, attributes := #[] }] 49 2 #[] #[])
  fields := #[]
  methods := #[k1m0, k1m1]
  instanceTypes := #[]
  staticTypes := #[]
  resolved := Array.replicate 44 none
  statics := none }

def pool2 : Array CpInfo := pool [(8, .class_ 10), (1, u "java/lang/Iterable"), (24, .class_ 36), (0, u "java/lang/Object")] 25

/-- java/lang/Iterable -/
def k2 : Class := { plain "java/lang/Iterable" (some 0) with
  accessFlags := 1537
  interfaces := #[]
  cf := some (fileOf pool2 8 #[] #[] 1537 35 #[] #[])
  fields := #[]
  methods := #[]
  instanceTypes := #[]
  staticTypes := #[]
  resolved := Array.replicate 62 none
  statics := none }

def pool3 : Array CpInfo := pool [(10, .class_ 12), (1, u "java/util/Collection"), (47, .class_ 61), (0, u "java/lang/Object"), (0, .class_ 63), (0, u "java/lang/Iterable")] 51

/-- java/util/Collection -/
def k3 : Class := { plain "java/util/Collection" (some 0) with
  accessFlags := 1537
  interfaces := #[2]
  cf := some (fileOf pool3 10 #[] #[] 1537 60 #[62] #[])
  fields := #[]
  methods := #[]
  instanceTypes := #[]
  staticTypes := #[]
  resolved := Array.replicate 115 none
  statics := none }

def pool4 : Array CpInfo := pool [(1, .methodref 2 3), (0, .class_ 4), (0, .nameAndType 5 6), (0, u "java/lang/Object"), (0, u "<init>"), (0, u "()V"), (1, .class_ 10), (1, u "java/util/AbstractCollection"), (66, .class_ 78), (0, u "java/util/Collection")] 81

def k4c0 : Code := { maxStack := 1, maxLocals := 1, code := jdk_22_method_1_code, exceptionTable := #[], attributes := #[] }
def k4m0 : Method := { name := "<init>", desc := "()V", sig := { parameters := [], returnType := none }, accessFlags := 4, code := some k4c0 }
/-- java/util/AbstractCollection -/
def k4 : Class := { plain "java/util/AbstractCollection" (some 0) with
  accessFlags := 1057
  interfaces := #[3]
  cf := some (fileOf pool4 8 #[] #[{ accessFlags := 4, nameIndex := 5, descriptorIndex := 6, attributes := #[] }] 1057 2 #[77] #[])
  fields := #[]
  methods := #[k4m0]
  instanceTypes := #[]
  staticTypes := #[]
  resolved := Array.replicate 160 none
  statics := none }

def pool5 : Array CpInfo := pool [(26, .class_ 27), (0, u "java/lang/Object"), (5, .class_ 34), (0, u "java/util/Set"), (1, .class_ 38), (1, u "java/util/Collection")] 105

/-- java/util/Set -/
def k5 : Class := { plain "java/util/Set" (some 0) with
  accessFlags := 1537
  interfaces := #[3]
  cf := some (fileOf pool5 33 #[] #[] 1537 26 #[36] #[])
  fields := #[]
  methods := #[]
  instanceTypes := #[]
  staticTypes := #[]
  resolved := Array.replicate 144 none
  statics := none }

def pool6 : Array CpInfo := pool [(1, .methodref 2 3), (0, .class_ 4), (0, .nameAndType 5 6), (0, u "java/util/AbstractCollection"), (0, u "<init>"), (0, u "()V"), (0, .class_ 8), (0, u "java/util/Set"), (7, .class_ 17), (0, u "java/util/AbstractSet")] 78

def k6c0 : Code := { maxStack := 1, maxLocals := 1, code := jdk_91_method_1_code, exceptionTable := #[], attributes := #[] }
def k6m0 : Method := { name := "<init>", desc := "()V", sig := { parameters := [], returnType := none }, accessFlags := 4, code := some k6c0 }
/-- java/util/AbstractSet -/
def k6 : Class := { plain "java/util/AbstractSet" (some 4) with
  accessFlags := 1057
  interfaces := #[5]
  cf := some (fileOf pool6 16 #[] #[{ accessFlags := 4, nameIndex := 5, descriptorIndex := 6, attributes := #[] }] 1057 2 #[7] #[])
  fields := #[]
  methods := #[k6m0]
  instanceTypes := #[]
  staticTypes := #[]
  resolved := Array.replicate 96 none
  statics := none }

def pool7 : Array CpInfo := pool [(1, .class_ 2), (0, u "com/example/dramatis/dramatis/analysis/RoleGraph"), (0, .methodref 4 5), (0, .class_ 6), (0, .nameAndType 7 8), (0, u "java/util/AbstractSet"), (0, u "<init>"), (0, u "()V"), (0, .fieldref 10 11), (0, .class_ 12), (0, .nameAndType 13 14), (0, u "com/example/dramatis/dramatis/analysis/RoleGraph$Targets"), (0, u "NO_WORDS"), (0, u "[J"), (0, .fieldref 10 16), (0, .nameAndType 17 14), (0, u "high"), (0, .fieldref 10 19), (0, .nameAndType 20 21), (0, u "low"), (0, u "J"), (13, .fieldref 10 36), (0, .nameAndType 37 38), (0, u "size"), (0, u "I"), (0, .class_ 40), (0, u "java/lang/Integer"), (0, .methodref 39 42), (0, .nameAndType 43 44), (0, u "intValue"), (0, u "()I"), (0, .methodref 10 46), (0, .nameAndType 47 48), (0, u "has"), (0, u "(I)Z"), (0, .methodref 10 50), (0, .nameAndType 51 48), (0, u "setBit"), (5, .long 18446744073709551615), (14, .methodref 73 74), (0, .class_ 75), (0, .nameAndType 76 77), (0, u "java/util/Arrays"), (0, u "copyOf"), (0, u "([JI)[J"), (0, .methodref 10 79), (0, .nameAndType 80 81), (0, u "contains"), (0, u "(Ljava/lang/Object;)Z"), (0, .methodref 10 83), (0, .nameAndType 84 85), (0, u "clearBit"), (0, u "(I)V"), (0, .methodref 73 87), (0, .nameAndType 88 89), (0, u "fill"), (0, u "([JJ)V"), (10, u "add"), (0, u "(Ljava/lang/Integer;)Z"), (0, u "END"), (7, u "isEmpty"), (0, u "()Z"), (15, u "remove"), (0, u "clear")] 11

def k7c0 : Code := { maxStack := 2, maxLocals := 1, code := prog_31_method_1_code, exceptionTable := #[], attributes := #[] }
def k7m0 : Method := { name := "<init>", desc := "()V", sig := { parameters := [], returnType := none }, accessFlags := 0, code := some k7c0 }
def k7c1 : Code := { maxStack := 1, maxLocals := 1, code := prog_31_method_5_code, exceptionTable := #[], attributes := #[] }
def k7m1 : Method := { name := "isEmpty", desc := "()Z", sig := { parameters := [], returnType := some .boolean }, accessFlags := 1, code := some k7c1 }
def k7c2 : Code := { maxStack := 3, maxLocals := 3, code := prog_31_method_6_code, exceptionTable := #[], attributes := #[] }
def k7m2 : Method := { name := "contains", desc := "(Ljava/lang/Object;)Z", sig := { parameters := [(.object "java/lang/Object")], returnType := some .boolean }, accessFlags := 1, code := some k7c2 }
def k7c3 : Code := { maxStack := 3, maxLocals := 2, code := prog_31_method_7_code, exceptionTable := #[], attributes := #[] }
def k7m3 : Method := { name := "add", desc := "(Ljava/lang/Integer;)Z", sig := { parameters := [(.object "java/lang/Integer")], returnType := some .boolean }, accessFlags := 1, code := some k7c3 }
def k7c4 : Code := { maxStack := 3, maxLocals := 3, code := prog_31_method_13_code, exceptionTable := #[], attributes := #[] }
def k7m4 : Method := { name := "remove", desc := "(Ljava/lang/Object;)Z", sig := { parameters := [(.object "java/lang/Object")], returnType := some .boolean }, accessFlags := 1, code := some k7c4 }
def k7c5 : Code := { maxStack := 3, maxLocals := 1, code := prog_31_method_14_code, exceptionTable := #[], attributes := #[] }
def k7m5 : Method := { name := "clear", desc := "()V", sig := { parameters := [], returnType := none }, accessFlags := 1, code := some k7c5 }
def k7c6 : Code := { maxStack := 7, maxLocals := 4, code := prog_31_method_16_code, exceptionTable := #[], attributes := #[] }
def k7m6 : Method := { name := "setBit", desc := "(I)Z", sig := { parameters := [.int], returnType := some .boolean }, accessFlags := 2, code := some k7c6 }
def k7c7 : Code := { maxStack := 5, maxLocals := 3, code := prog_31_method_17_code, exceptionTable := #[], attributes := #[] }
def k7m7 : Method := { name := "has", desc := "(I)Z", sig := { parameters := [.int], returnType := some .boolean }, accessFlags := 2, code := some k7c7 }
def k7c8 : Code := { maxStack := 8, maxLocals := 2, code := prog_31_method_18_code, exceptionTable := #[], attributes := #[] }
def k7m8 : Method := { name := "clearBit", desc := "(I)V", sig := { parameters := [.int], returnType := none }, accessFlags := 2, code := some k7c8 }
/-- com/example/dramatis/dramatis/analysis/RoleGraph$Targets -/
def k7 : Class := { plain "com/example/dramatis/dramatis/analysis/RoleGraph$Targets" (some 6) with
  accessFlags := 48
  interfaces := #[]
  cf := some (fileOf pool7 10 #[.nestHost 1] #[{ accessFlags := 0, nameIndex := 7, descriptorIndex := 8, attributes := #[] }, { accessFlags := 1, nameIndex := 110, descriptorIndex := 111, attributes := #[] }, { accessFlags := 1, nameIndex := 80, descriptorIndex := 81, attributes := #[] }, { accessFlags := 1, nameIndex := 100, descriptorIndex := 101, attributes := #[] }, { accessFlags := 1, nameIndex := 127, descriptorIndex := 81, attributes := #[] }, { accessFlags := 1, nameIndex := 128, descriptorIndex := 8, attributes := #[] }, { accessFlags := 2, nameIndex := 51, descriptorIndex := 48, attributes := #[] }, { accessFlags := 2, nameIndex := 47, descriptorIndex := 48, attributes := #[] }, { accessFlags := 2, nameIndex := 84, descriptorIndex := 85, attributes := #[] }] 48 4 #[] #[{ accessFlags := 24, nameIndex := 102, descriptorIndex := 38, attributes := #[] }, { accessFlags := 26, nameIndex := 13, descriptorIndex := 14, attributes := #[] }, { accessFlags := 2, nameIndex := 20, descriptorIndex := 21, attributes := #[] }, { accessFlags := 2, nameIndex := 17, descriptorIndex := 14, attributes := #[] }, { accessFlags := 2, nameIndex := 37, descriptorIndex := 38, attributes := #[] }])
  fields := #[{ name := "END", type := .int, accessFlags := 24, slot := 0, constantValue := 0 }, { name := "NO_WORDS", type := (.array .long), accessFlags := 26, slot := 1, constantValue := 0 }, { name := "low", type := .long, accessFlags := 2, slot := 0, constantValue := 0 }, { name := "high", type := (.array .long), accessFlags := 2, slot := 1, constantValue := 0 }, { name := "size", type := .int, accessFlags := 2, slot := 2, constantValue := 0 }]
  methods := #[k7m0, k7m1, k7m2, k7m3, k7m4, k7m5, k7m6, k7m7, k7m8]
  instanceTypes := #[.long, (.array .long), .int]
  staticTypes := #[.int, (.array .long)]
  resolved := Array.replicate 140 none
  statics := some 0 }

def pool8 : Array CpInfo := pool [(1, .class_ 2), (0, u "java/io/Serializable"), (0, .class_ 4), (0, u "java/lang/Object")] 2

/-- java/io/Serializable -/
def k8 : Class := { plain "java/io/Serializable" (some 0) with
  accessFlags := 1537
  interfaces := #[]
  cf := some (fileOf pool8 1 #[] #[] 1537 3 #[] #[])
  fields := #[]
  methods := #[]
  instanceTypes := #[]
  staticTypes := #[]
  resolved := Array.replicate 7 none
  statics := none }

def pool9 : Array CpInfo := pool [(1, .methodref 2 3), (0, .class_ 4), (0, .nameAndType 5 6), (0, u "java/lang/Object"), (0, u "<init>"), (0, u "()V"), (1, .class_ 10), (1, u "java/lang/Number"), (2, .class_ 14), (0, u "java/io/Serializable"), (0, u "serialVersionUID"), (0, u "J")] 20

def k9c0 : Code := { maxStack := 1, maxLocals := 1, code := jdk_18_method_1_code, exceptionTable := #[], attributes := #[] }
def k9m0 : Method := { name := "<init>", desc := "()V", sig := { parameters := [], returnType := none }, accessFlags := 1, code := some k9c0 }
/-- java/lang/Number -/
def k9 : Class := { plain "java/lang/Number" (some 0) with
  accessFlags := 1057
  interfaces := #[8]
  cf := some (fileOf pool9 8 #[] #[{ accessFlags := 1, nameIndex := 5, descriptorIndex := 6, attributes := #[] }] 1057 2 #[13] #[{ accessFlags := 26, nameIndex := 15, descriptorIndex := 16, attributes := #[] }])
  fields := #[{ name := "serialVersionUID", type := .long, accessFlags := 26, slot := 0, constantValue := 0 }]
  methods := #[k9m0]
  instanceTypes := #[]
  staticTypes := #[.long]
  resolved := Array.replicate 37 none
  statics := none }

def pool10 : Array CpInfo := pool [(1, .class_ 2), (0, u "java/lang/Comparable"), (0, .class_ 4), (0, u "java/lang/Object")] 7

/-- java/lang/Comparable -/
def k10 : Class := { plain "java/lang/Comparable" (some 0) with
  accessFlags := 1537
  interfaces := #[]
  cf := some (fileOf pool10 1 #[] #[] 1537 3 #[] #[])
  fields := #[]
  methods := #[]
  instanceTypes := #[]
  staticTypes := #[]
  resolved := Array.replicate 12 none
  statics := none }

def pool11 : Array CpInfo := pool [(1, .class_ 2), (0, u "java/lang/constant/Constable"), (0, .class_ 4), (0, u "java/lang/Object")] 6

/-- java/lang/constant/Constable -/
def k11 : Class := { plain "java/lang/constant/Constable" (some 0) with
  accessFlags := 1537
  interfaces := #[]
  cf := some (fileOf pool11 1 #[] #[] 1537 3 #[] #[])
  fields := #[]
  methods := #[]
  instanceTypes := #[]
  staticTypes := #[]
  resolved := Array.replicate 11 none
  statics := none }

def pool12 : Array CpInfo := pool [(1, .class_ 2), (0, u "java/lang/constant/ConstantDesc"), (0, .class_ 4), (0, u "java/lang/Object")] 32

/-- java/lang/constant/ConstantDesc -/
def k12 : Class := { plain "java/lang/constant/ConstantDesc" (some 0) with
  accessFlags := 1537
  interfaces := #[]
  cf := some (fileOf pool12 1 #[] #[] 1537 3 #[] #[])
  fields := #[]
  methods := #[]
  instanceTypes := #[]
  staticTypes := #[]
  resolved := Array.replicate 37 none
  statics := none }

def pool13 : Array CpInfo := pool [(1, .class_ 2), (0, u "java/lang/Integer"), (16, u "digits"), (0, u "[C"), (46, u "<init>"), (17, u "DigitOnes"), (0, u "[B"), (2, u "DigitTens"), (10, .nameAndType 67 101), (0, u "()V"), (19, u "()I"), (65, u "valueOf"), (0, u "(I)Ljava/lang/Integer;"), (0, .class_ 190), (0, u "java/lang/Integer$IntegerCache"), (0, .fieldref 189 192), (0, .nameAndType 193 194), (0, u "high"), (0, u "I"), (0, .fieldref 189 196), (0, .nameAndType 197 198), (0, u "cache"), (0, u "[Ljava/lang/Integer;"), (0, .methodref 1 200), (0, .nameAndType 67 201), (0, u "(I)V"), (0, .methodref 203 100), (0, .class_ 204), (0, u "java/lang/Number"), (0, .fieldref 1 206), (0, .nameAndType 207 194), (0, u "value"), (5, u "intValue"), (88, u "TYPE"), (0, u "Ljava/lang/Class;"), (0, .class_ 305), (0, u "java/lang/Comparable"), (0, .class_ 307), (0, u "java/lang/constant/Constable"), (0, .class_ 309), (0, u "java/lang/constant/ConstantDesc"), (0, u "MIN_VALUE"), (1, u "MAX_VALUE"), (3, u "SIZE"), (1, u "BYTES"), (1, u "serialVersionUID"), (0, u "J")] 131

def k13c0 : Code := { maxStack := 3, maxLocals := 1, code := jdk_33_method_22_code, exceptionTable := #[], attributes := #[] }
def k13m0 : Method := { name := "valueOf", desc := "(I)Ljava/lang/Integer;", sig := { parameters := [.int], returnType := some (.object "java/lang/Integer") }, accessFlags := 9, code := some k13c0 }
def k13c1 : Code := { maxStack := 2, maxLocals := 2, code := jdk_33_method_23_code, exceptionTable := #[], attributes := #[] }
def k13m1 : Method := { name := "<init>", desc := "(I)V", sig := { parameters := [.int], returnType := none }, accessFlags := 1, code := some k13c1 }
def k13c2 : Code := { maxStack := 1, maxLocals := 1, code := jdk_33_method_27_code, exceptionTable := #[], attributes := #[] }
def k13m2 : Method := { name := "intValue", desc := "()I", sig := { parameters := [], returnType := some .int }, accessFlags := 1, code := some k13c2 }
/-- java/lang/Integer -/
def k13 : Class := { plain "java/lang/Integer" (some 9) with
  accessFlags := 49
  interfaces := #[10, 11, 12]
  cf := some (fileOf pool13 1 #[.nestMembers #[189]] #[{ accessFlags := 9, nameIndex := 187, descriptorIndex := 188, attributes := #[] }, { accessFlags := 1, nameIndex := 67, descriptorIndex := 201, attributes := #[] }, { accessFlags := 1, nameIndex := 213, descriptorIndex := 121, attributes := #[] }] 49 203 #[304, 306, 308] #[{ accessFlags := 25, nameIndex := 310, descriptorIndex := 194, attributes := #[] }, { accessFlags := 25, nameIndex := 312, descriptorIndex := 194, attributes := #[] }, { accessFlags := 25, nameIndex := 302, descriptorIndex := 303, attributes := #[] }, { accessFlags := 24, nameIndex := 19, descriptorIndex := 20, attributes := #[] }, { accessFlags := 24, nameIndex := 89, descriptorIndex := 86, attributes := #[] }, { accessFlags := 24, nameIndex := 85, descriptorIndex := 86, attributes := #[] }, { accessFlags := 18, nameIndex := 207, descriptorIndex := 194, attributes := #[] }, { accessFlags := 25, nameIndex := 316, descriptorIndex := 194, attributes := #[] }, { accessFlags := 25, nameIndex := 318, descriptorIndex := 194, attributes := #[] }, { accessFlags := 26, nameIndex := 320, descriptorIndex := 321, attributes := #[] }])
  fields := #[{ name := "MIN_VALUE", type := .int, accessFlags := 25, slot := 0, constantValue := 0 }, { name := "MAX_VALUE", type := .int, accessFlags := 25, slot := 1, constantValue := 0 }, { name := "TYPE", type := (.object "java/lang/Class"), accessFlags := 25, slot := 2, constantValue := 0 }, { name := "digits", type := (.array .char), accessFlags := 24, slot := 3, constantValue := 0 }, { name := "DigitTens", type := (.array .byte), accessFlags := 24, slot := 4, constantValue := 0 }, { name := "DigitOnes", type := (.array .byte), accessFlags := 24, slot := 5, constantValue := 0 }, { name := "value", type := .int, accessFlags := 18, slot := 0, constantValue := 0 }, { name := "SIZE", type := .int, accessFlags := 25, slot := 6, constantValue := 0 }, { name := "BYTES", type := .int, accessFlags := 25, slot := 7, constantValue := 0 }, { name := "serialVersionUID", type := .long, accessFlags := 26, slot := 8, constantValue := 0 }]
  methods := #[k13m0, k13m1, k13m2]
  instanceTypes := #[.int]
  staticTypes := #[.int, .int, (.object "java/lang/Class"), (.array .char), (.array .byte), (.array .byte), .int, .int, .long]
  resolved := Array.replicate 453 none
  statics := none }

def pool14 : Array CpInfo := pool [(2, .class_ 4), (1, u "java/lang/Object"), (0, u "<init>"), (0, u "()V"), (0, .class_ 8), (0, u "java/lang/Integer"), (7, .class_ 18), (1, u "java/lang/Integer$IntegerCache"), (0, u "$assertionsDisabled"), (0, u "Z"), (26, u "high"), (0, u "I"), (8, u "archivedCache"), (0, u "[Ljava/lang/Integer;"), (12, u "cache"), (0, u "low")] 27

def k14m0 : Method := { name := "<init>", desc := "()V", sig := { parameters := [], returnType := none }, accessFlags := 2, code := none }
/-- java/lang/Integer$IntegerCache -/
def k14 : Class := { plain "java/lang/Integer$IntegerCache" (some 0) with
  accessFlags := 48
  interfaces := #[]
  cf := some (fileOf pool14 16 #[.nestHost 7] #[{ accessFlags := 2, nameIndex := 5, descriptorIndex := 6, attributes := #[] }] 48 2 #[] #[{ accessFlags := 24, nameIndex := 72, descriptorIndex := 48, attributes := #[] }, { accessFlags := 24, nameIndex := 47, descriptorIndex := 48, attributes := #[] }, { accessFlags := 24, nameIndex := 71, descriptorIndex := 58, attributes := #[] }, { accessFlags := 8, nameIndex := 57, descriptorIndex := 58, attributes := #[] }, { accessFlags := 4120, nameIndex := 19, descriptorIndex := 20, attributes := #[] }])
  fields := #[{ name := "low", type := .int, accessFlags := 24, slot := 0, constantValue := 0 }, { name := "high", type := .int, accessFlags := 24, slot := 1, constantValue := 0 }, { name := "cache", type := (.array (.object "java/lang/Integer")), accessFlags := 24, slot := 2, constantValue := 0 }, { name := "archivedCache", type := (.array (.object "java/lang/Integer")), accessFlags := 8, slot := 3, constantValue := 0 }, { name := "$assertionsDisabled", type := .boolean, accessFlags := 4120, slot := 4, constantValue := 0 }]
  methods := #[k14m0]
  instanceTypes := #[]
  staticTypes := #[.int, .int, (.array (.object "java/lang/Integer")), (.array (.object "java/lang/Integer")), .boolean]
  resolved := Array.replicate 100 none
  statics := some 1 }

def pool15 : Array CpInfo := pool [(2, .class_ 4), (1, u "java/lang/Object"), (0, u "<init>"), (0, u "()V"), (7, .class_ 16), (1, u "java/util/Arrays"), (57, .class_ 76), (1, u "java/util/Arrays$NaturalOrder"), (36, .class_ 115), (1, u "java/util/Arrays$LegacyMergeSort"), (1, u "Z"), (32, .methodref 151 152), (0, .class_ 153), (0, .nameAndType 154 155), (0, u "java/lang/System"), (0, u "arraycopy"), (0, u "(Ljava/lang/Object;ILjava/lang/Object;II)V"), (146, u "copyOf"), (1, .methodref 305 306), (0, .class_ 307), (0, .nameAndType 308 309), (0, u "java/lang/Math"), (0, u "min"), (0, u "(II)I"), (65, .class_ 376), (0, u "java/util/Arrays$ArrayList"), (68, u "$assertionsDisabled"), (269, u "MIN_ARRAY_SORT_GRAN"), (0, u "I"), (2, u "INSERTIONSORT_THRESHOLD"), (120, u "fill"), (0, u "([JJ)V"), (30, u "([JI)[J"), (102, .class_ 976), (0, u "java/util/Arrays$ArrayItr")] 52

def k15m0 : Method := { name := "<init>", desc := "()V", sig := { parameters := [], returnType := none }, accessFlags := 2, code := none }
def k15c1 : Code := { maxStack := 4, maxLocals := 5, code := jdk_65_method_101_code, exceptionTable := #[], attributes := #[] }
def k15m1 : Method := { name := "fill", desc := "([JJ)V", sig := { parameters := [(.array .long), .long], returnType := none }, accessFlags := 9, code := some k15c1 }
def k15c2 : Code := { maxStack := 6, maxLocals := 3, code := jdk_65_method_124_code, exceptionTable := #[], attributes := #[] }
def k15m2 : Method := { name := "copyOf", desc := "([JI)[J", sig := { parameters := [(.array .long), .int], returnType := some (.array .long) }, accessFlags := 9, code := some k15c2 }
/-- java/util/Arrays -/
def k15 : Class := { plain "java/util/Arrays" (some 0) with
  accessFlags := 49
  interfaces := #[]
  cf := some (fileOf pool15 14 #[.nestMembers #[975, 375, 113, 74]] #[{ accessFlags := 2, nameIndex := 5, descriptorIndex := 6, attributes := #[] }, { accessFlags := 9, nameIndex := 840, descriptorIndex := 841, attributes := #[] }, { accessFlags := 9, nameIndex := 302, descriptorIndex := 872, attributes := #[] }] 49 2 #[] #[{ accessFlags := 26, nameIndex := 715, descriptorIndex := 716, attributes := #[] }, { accessFlags := 26, nameIndex := 719, descriptorIndex := 716, attributes := #[] }, { accessFlags := 4120, nameIndex := 445, descriptorIndex := 117, attributes := #[] }])
  fields := #[{ name := "MIN_ARRAY_SORT_GRAN", type := .int, accessFlags := 26, slot := 0, constantValue := 0 }, { name := "INSERTIONSORT_THRESHOLD", type := .int, accessFlags := 26, slot := 1, constantValue := 0 }, { name := "$assertionsDisabled", type := .boolean, accessFlags := 4120, slot := 2, constantValue := 0 }]
  methods := #[k15m0, k15m1, k15m2]
  instanceTypes := #[]
  staticTypes := #[.int, .int, .boolean]
  resolved := Array.replicate 1029 none
  statics := none }

def pool16 : Array CpInfo := pool [(1, .class_ 2), (0, u "java/lang/Math"), (1, .class_ 6), (1, u "java/lang/Object"), (0, u "<init>"), (0, u "()V"), (89, .class_ 100), (1, u "java/lang/Math$RandomNumberGeneratorHolder"), (71, u "negativeZeroFloatBits"), (0, u "J"), (2, u "negativeZeroDoubleBits"), (24, u "min"), (43, u "$assertionsDisabled"), (0, u "Z"), (88, u "(II)I"), (2, u "twoToTheDoubleScaleDown"), (0, u "D"), (4, u "twoToTheDoubleScaleUp"), (9, u "E"), (3, u "PI"), (2, u "TAU"), (2, u "DEGREES_TO_RADIANS"), (0, u "RADIANS_TO_DEGREES")] 94

def k16m0 : Method := { name := "<init>", desc := "()V", sig := { parameters := [], returnType := none }, accessFlags := 2, code := none }
def k16c1 : Code := { maxStack := 2, maxLocals := 2, code := jdk_29_method_69_code, exceptionTable := #[], attributes := #[] }
def k16m1 : Method := { name := "min", desc := "(II)I", sig := { parameters := [.int, .int], returnType := some .int }, accessFlags := 9, code := some k16c1 }
/-- java/lang/Math -/
def k16 : Class := { plain "java/lang/Math" (some 0) with
  accessFlags := 49
  interfaces := #[]
  cf := some (fileOf pool16 1 #[.nestMembers #[98]] #[{ accessFlags := 2, nameIndex := 7, descriptorIndex := 8, attributes := #[] }, { accessFlags := 9, nameIndex := 201, descriptorIndex := 335, attributes := #[] }] 49 4 #[] #[{ accessFlags := 25, nameIndex := 354, descriptorIndex := 339, attributes := #[] }, { accessFlags := 25, nameIndex := 358, descriptorIndex := 339, attributes := #[] }, { accessFlags := 25, nameIndex := 361, descriptorIndex := 339, attributes := #[] }, { accessFlags := 26, nameIndex := 364, descriptorIndex := 339, attributes := #[] }, { accessFlags := 26, nameIndex := 365, descriptorIndex := 339, attributes := #[] }, { accessFlags := 26, nameIndex := 172, descriptorIndex := 173, attributes := #[] }, { accessFlags := 26, nameIndex := 176, descriptorIndex := 173, attributes := #[] }, { accessFlags := 8, nameIndex := 344, descriptorIndex := 339, attributes := #[] }, { accessFlags := 8, nameIndex := 338, descriptorIndex := 339, attributes := #[] }, { accessFlags := 4120, nameIndex := 245, descriptorIndex := 246, attributes := #[] }])
  fields := #[{ name := "E", type := .double, accessFlags := 25, slot := 0, constantValue := 0 }, { name := "PI", type := .double, accessFlags := 25, slot := 1, constantValue := 0 }, { name := "TAU", type := .double, accessFlags := 25, slot := 2, constantValue := 0 }, { name := "DEGREES_TO_RADIANS", type := .double, accessFlags := 26, slot := 3, constantValue := 0 }, { name := "RADIANS_TO_DEGREES", type := .double, accessFlags := 26, slot := 4, constantValue := 0 }, { name := "negativeZeroFloatBits", type := .long, accessFlags := 26, slot := 5, constantValue := 0 }, { name := "negativeZeroDoubleBits", type := .long, accessFlags := 26, slot := 6, constantValue := 0 }, { name := "twoToTheDoubleScaleUp", type := .double, accessFlags := 8, slot := 7, constantValue := 0 }, { name := "twoToTheDoubleScaleDown", type := .double, accessFlags := 8, slot := 8, constantValue := 0 }, { name := "$assertionsDisabled", type := .boolean, accessFlags := 4120, slot := 9, constantValue := 0 }]
  methods := #[k16m0, k16m1]
  instanceTypes := #[]
  staticTypes := #[.double, .double, .double, .double, .double, .long, .long, .double, .double, .boolean]
  resolved := Array.replicate 460 none
  statics := none }

def pool17 : Array CpInfo := pool [(2, .class_ 4), (1, u "java/lang/Object"), (0, u "<init>"), (0, u "()V"), (1, .class_ 10), (1, u "java/lang/System"), (0, u "allowSecurityManager"), (0, u "I"), (16, u "cons"), (0, u "Ljava/io/Console;"), (77, .class_ 110), (1, u "java/lang/System$CallersHolder"), (43, u "initialErrStream"), (0, u "Ljava/io/PrintStream;"), (19, u "security"), (0, u "Ljava/lang/SecurityManager;"), (31, .class_ 209), (0, u "java/lang/System$1"), (7, u "props"), (0, u "Ljava/util/Properties;"), (2, u "lineSeparator"), (0, u "Ljava/lang/String;"), (96, .class_ 321), (1, u "java/lang/System$LoggerFinder"), (5, .class_ 328), (0, u "java/lang/System$Logger"), (67, u "err"), (2, u "out"), (91, u "notSupportedJnuEncoding"), (15, u "in"), (17, u "initialIn"), (0, u "Ljava/io/InputStream;"), (35, u "bootLayer"), (0, u "Ljava/lang/ModuleLayer;"), (99, .class_ 664), (0, u "java/lang/System$2"), (9, u "NEVER"), (2, u "MAYBE"), (49, u "arraycopy"), (0, u "(Ljava/lang/Object;ILjava/lang/Object;II)V"), (72, .class_ 802), (0, u "java/lang/System$Logger$Level")] 31

def k17m0 : Method := { name := "<init>", desc := "()V", sig := { parameters := [], returnType := none }, accessFlags := 2, code := none }
def k17m1 : Method := { name := "arraycopy", desc := "(Ljava/lang/Object;ILjava/lang/Object;II)V", sig := { parameters := [(.object "java/lang/Object"), .int, (.object "java/lang/Object"), .int, .int], returnType := none }, accessFlags := 265, code := none }
/-- java/lang/System -/
def k17 : Class := { plain "java/lang/System" (some 0) with
  accessFlags := 49
  interfaces := #[]
  cf := some (fileOf pool17 8 #[.nestMembers #[319, 327, 801, 108, 663, 208]] #[{ accessFlags := 2, nameIndex := 5, descriptorIndex := 6, attributes := #[] }, { accessFlags := 265, nameIndex := 727, descriptorIndex := 728, attributes := #[] }] 49 2 #[] #[{ accessFlags := 25, nameIndex := 507, descriptorIndex := 526, attributes := #[] }, { accessFlags := 25, nameIndex := 399, descriptorIndex := 155, attributes := #[] }, { accessFlags := 25, nameIndex := 396, descriptorIndex := 155, attributes := #[] }, { accessFlags := 10, nameIndex := 525, descriptorIndex := 526, attributes := #[] }, { accessFlags := 26, nameIndex := 674, descriptorIndex := 12, attributes := #[] }, { accessFlags := 26, nameIndex := 677, descriptorIndex := 12, attributes := #[] }, { accessFlags := 10, nameIndex := 11, descriptorIndex := 12, attributes := #[] }, { accessFlags := 74, nameIndex := 175, descriptorIndex := 176, attributes := #[] }, { accessFlags := 10, nameIndex := 491, descriptorIndex := 222, attributes := #[] }, { accessFlags := 74, nameIndex := 29, descriptorIndex := 30, attributes := #[] }, { accessFlags := 74, nameIndex := 154, descriptorIndex := 155, attributes := #[] }, { accessFlags := 10, nameIndex := 217, descriptorIndex := 218, attributes := #[] }, { accessFlags := 10, nameIndex := 221, descriptorIndex := 222, attributes := #[] }, { accessFlags := 8, nameIndex := 562, descriptorIndex := 563, attributes := #[] }])
  fields := #[{ name := "in", type := (.object "java/io/InputStream"), accessFlags := 25, slot := 0, constantValue := 0 }, { name := "out", type := (.object "java/io/PrintStream"), accessFlags := 25, slot := 1, constantValue := 0 }, { name := "err", type := (.object "java/io/PrintStream"), accessFlags := 25, slot := 2, constantValue := 0 }, { name := "initialIn", type := (.object "java/io/InputStream"), accessFlags := 10, slot := 3, constantValue := 0 }, { name := "NEVER", type := .int, accessFlags := 26, slot := 4, constantValue := 0 }, { name := "MAYBE", type := .int, accessFlags := 26, slot := 5, constantValue := 0 }, { name := "allowSecurityManager", type := .int, accessFlags := 10, slot := 6, constantValue := 0 }, { name := "security", type := (.object "java/lang/SecurityManager"), accessFlags := 74, slot := 7, constantValue := 0 }, { name := "notSupportedJnuEncoding", type := (.object "java/lang/String"), accessFlags := 10, slot := 8, constantValue := 0 }, { name := "cons", type := (.object "java/io/Console"), accessFlags := 74, slot := 9, constantValue := 0 }, { name := "initialErrStream", type := (.object "java/io/PrintStream"), accessFlags := 74, slot := 10, constantValue := 0 }, { name := "props", type := (.object "java/util/Properties"), accessFlags := 10, slot := 11, constantValue := 0 }, { name := "lineSeparator", type := (.object "java/lang/String"), accessFlags := 10, slot := 12, constantValue := 0 }, { name := "bootLayer", type := (.object "java/lang/ModuleLayer"), accessFlags := 8, slot := 13, constantValue := 0 }]
  methods := #[k17m0, k17m1]
  instanceTypes := #[]
  staticTypes := #[(.object "java/io/InputStream"), (.object "java/io/PrintStream"), (.object "java/io/PrintStream"), (.object "java/io/InputStream"), .int, .int, .int, (.object "java/lang/SecurityManager"), (.object "java/lang/String"), (.object "java/io/Console"), (.object "java/io/PrintStream"), (.object "java/util/Properties"), (.object "java/lang/String"), (.object "java/lang/ModuleLayer")]
  resolved := Array.replicate 834 none
  statics := none }

def pool18 : Array CpInfo := pool [(1, u "java/lang/Cloneable"), (0, .class_ 1), (0, u "java/lang/Object"), (0, .class_ 3)] 3

/-- java/lang/Cloneable -/
def k18 : Class := { plain "java/lang/Cloneable" (some 0) with
  accessFlags := 1537
  interfaces := #[]
  cf := some (fileOf pool18 2 #[] #[] 1537 4 #[] #[])
  fields := #[]
  methods := #[]
  instanceTypes := #[]
  staticTypes := #[]
  resolved := Array.replicate 8 none
  statics := none }

/-- the primitive byte -/
def k19 : Class := { plain "byte" none with kind := .primitive 'B', accessFlags := 0x411 }
/-- [B -/
def k20 : Class := { plain "[B" (some 0) with kind := .array 19 .byte, interfaces := #[18, 8], accessFlags := 1041 }

/-- the primitive int -/
def k21 : Class := { plain "int" none with kind := .primitive 'I', accessFlags := 0x411 }
/-- [I -/
def k22 : Class := { plain "[I" (some 0) with kind := .array 21 .int, interfaces := #[18, 8], accessFlags := 1041 }

/-- the primitive long -/
def k23 : Class := { plain "long" none with kind := .primitive 'J', accessFlags := 0x411 }
/-- [J -/
def k24 : Class := { plain "[J" (some 0) with kind := .array 23 .long, interfaces := #[18, 8], accessFlags := 1041 }

/-- [Ljava/lang/Integer; -/
def k25 : Class := { plain "[Ljava/lang/Integer;" (some 0) with kind := .array 13 (.object "java/lang/Integer"), interfaces := #[18, 8], accessFlags := 1041 }

def heap : Heap := #[{ cls := 7, slots := #[.int 0, .ref 3], vm := .statics 7 },
  { cls := 14, slots := #[.int 0, .int 127, .ref 2, .null, .int 0], vm := .statics 14 },
  { cls := 25, slots := #[.ref 4, .ref 5, .ref 6, .ref 7, .ref 8, .ref 9, .ref 10, .ref 11, .ref 12, .ref 13, .ref 14, .ref 15, .ref 16, .ref 17, .ref 18, .ref 19, .ref 20, .ref 21, .ref 22, .ref 23, .ref 24, .ref 25, .ref 26, .ref 27, .ref 28, .ref 29, .ref 30, .ref 31, .ref 32, .ref 33, .ref 34, .ref 35, .ref 36, .ref 37, .ref 38, .ref 39, .ref 40, .ref 41, .ref 42, .ref 43, .ref 44, .ref 45, .ref 46, .ref 47, .ref 48, .ref 49, .ref 50, .ref 51, .ref 52, .ref 53, .ref 54, .ref 55, .ref 56, .ref 57, .ref 58, .ref 59, .ref 60, .ref 61, .ref 62, .ref 63, .ref 64, .ref 65, .ref 66, .ref 67, .ref 68, .ref 69, .ref 70, .ref 71, .ref 72, .ref 73, .ref 74, .ref 75, .ref 76, .ref 77, .ref 78, .ref 79, .ref 80, .ref 81, .ref 82, .ref 83, .ref 84, .ref 85, .ref 86, .ref 87, .ref 88, .ref 89, .ref 90, .ref 91, .ref 92, .ref 93, .ref 94, .ref 95, .ref 96, .ref 97, .ref 98, .ref 99, .ref 100, .ref 101, .ref 102, .ref 103, .ref 104, .ref 105, .ref 106, .ref 107, .ref 108, .ref 109, .ref 110, .ref 111, .ref 112, .ref 113, .ref 114, .ref 115, .ref 116, .ref 117, .ref 118, .ref 119, .ref 120, .ref 121, .ref 122, .ref 123, .ref 124, .ref 125, .ref 126, .ref 127, .ref 128, .ref 129, .ref 130, .ref 131, .ref 132, .ref 133, .ref 134, .ref 135, .ref 136, .ref 137, .ref 138, .ref 139, .ref 140, .ref 141, .ref 142, .ref 143, .ref 144, .ref 145, .ref 146, .ref 147, .ref 148, .ref 149, .ref 150, .ref 151, .ref 152, .ref 153, .ref 154, .ref 155, .ref 156, .ref 157, .ref 158, .ref 159, .ref 160, .ref 161, .ref 162, .ref 163, .ref 164, .ref 165, .ref 166, .ref 167, .ref 168, .ref 169, .ref 170, .ref 171, .ref 172, .ref 173, .ref 174, .ref 175, .ref 176, .ref 177, .ref 178, .ref 179, .ref 180, .ref 181, .ref 182, .ref 183, .ref 184, .ref 185, .ref 186, .ref 187, .ref 188, .ref 189, .ref 190, .ref 191, .ref 192, .ref 193, .ref 194, .ref 195, .ref 196, .ref 197, .ref 198, .ref 199, .ref 200, .ref 201, .ref 202, .ref 203, .ref 204, .ref 205, .ref 206, .ref 207, .ref 208, .ref 209, .ref 210, .ref 211, .ref 212, .ref 213, .ref 214, .ref 215, .ref 216, .ref 217, .ref 218, .ref 219, .ref 220, .ref 221, .ref 222, .ref 223, .ref 224, .ref 225, .ref 226, .ref 227, .ref 228, .ref 229, .ref 230, .ref 231, .ref 232, .ref 233, .ref 234, .ref 235, .ref 236, .ref 237, .ref 238, .ref 239, .ref 240, .ref 241, .ref 242, .ref 243, .ref 244, .ref 245, .ref 246, .ref 247, .ref 248, .ref 249, .ref 250, .ref 251, .ref 252, .ref 253, .ref 254, .ref 255, .ref 256, .ref 257, .ref 258, .ref 259], vm := .none },
  { cls := 24, slots := #[], vm := .none },
  { cls := 13, slots := #[.int (-128)], vm := .none },
  { cls := 13, slots := #[.int (-127)], vm := .none },
  { cls := 13, slots := #[.int (-126)], vm := .none },
  { cls := 13, slots := #[.int (-125)], vm := .none },
  { cls := 13, slots := #[.int (-124)], vm := .none },
  { cls := 13, slots := #[.int (-123)], vm := .none },
  { cls := 13, slots := #[.int (-122)], vm := .none },
  { cls := 13, slots := #[.int (-121)], vm := .none },
  { cls := 13, slots := #[.int (-120)], vm := .none },
  { cls := 13, slots := #[.int (-119)], vm := .none },
  { cls := 13, slots := #[.int (-118)], vm := .none },
  { cls := 13, slots := #[.int (-117)], vm := .none },
  { cls := 13, slots := #[.int (-116)], vm := .none },
  { cls := 13, slots := #[.int (-115)], vm := .none },
  { cls := 13, slots := #[.int (-114)], vm := .none },
  { cls := 13, slots := #[.int (-113)], vm := .none },
  { cls := 13, slots := #[.int (-112)], vm := .none },
  { cls := 13, slots := #[.int (-111)], vm := .none },
  { cls := 13, slots := #[.int (-110)], vm := .none },
  { cls := 13, slots := #[.int (-109)], vm := .none },
  { cls := 13, slots := #[.int (-108)], vm := .none },
  { cls := 13, slots := #[.int (-107)], vm := .none },
  { cls := 13, slots := #[.int (-106)], vm := .none },
  { cls := 13, slots := #[.int (-105)], vm := .none },
  { cls := 13, slots := #[.int (-104)], vm := .none },
  { cls := 13, slots := #[.int (-103)], vm := .none },
  { cls := 13, slots := #[.int (-102)], vm := .none },
  { cls := 13, slots := #[.int (-101)], vm := .none },
  { cls := 13, slots := #[.int (-100)], vm := .none },
  { cls := 13, slots := #[.int (-99)], vm := .none },
  { cls := 13, slots := #[.int (-98)], vm := .none },
  { cls := 13, slots := #[.int (-97)], vm := .none },
  { cls := 13, slots := #[.int (-96)], vm := .none },
  { cls := 13, slots := #[.int (-95)], vm := .none },
  { cls := 13, slots := #[.int (-94)], vm := .none },
  { cls := 13, slots := #[.int (-93)], vm := .none },
  { cls := 13, slots := #[.int (-92)], vm := .none },
  { cls := 13, slots := #[.int (-91)], vm := .none },
  { cls := 13, slots := #[.int (-90)], vm := .none },
  { cls := 13, slots := #[.int (-89)], vm := .none },
  { cls := 13, slots := #[.int (-88)], vm := .none },
  { cls := 13, slots := #[.int (-87)], vm := .none },
  { cls := 13, slots := #[.int (-86)], vm := .none },
  { cls := 13, slots := #[.int (-85)], vm := .none },
  { cls := 13, slots := #[.int (-84)], vm := .none },
  { cls := 13, slots := #[.int (-83)], vm := .none },
  { cls := 13, slots := #[.int (-82)], vm := .none },
  { cls := 13, slots := #[.int (-81)], vm := .none },
  { cls := 13, slots := #[.int (-80)], vm := .none },
  { cls := 13, slots := #[.int (-79)], vm := .none },
  { cls := 13, slots := #[.int (-78)], vm := .none },
  { cls := 13, slots := #[.int (-77)], vm := .none },
  { cls := 13, slots := #[.int (-76)], vm := .none },
  { cls := 13, slots := #[.int (-75)], vm := .none },
  { cls := 13, slots := #[.int (-74)], vm := .none },
  { cls := 13, slots := #[.int (-73)], vm := .none },
  { cls := 13, slots := #[.int (-72)], vm := .none },
  { cls := 13, slots := #[.int (-71)], vm := .none },
  { cls := 13, slots := #[.int (-70)], vm := .none },
  { cls := 13, slots := #[.int (-69)], vm := .none },
  { cls := 13, slots := #[.int (-68)], vm := .none },
  { cls := 13, slots := #[.int (-67)], vm := .none },
  { cls := 13, slots := #[.int (-66)], vm := .none },
  { cls := 13, slots := #[.int (-65)], vm := .none },
  { cls := 13, slots := #[.int (-64)], vm := .none },
  { cls := 13, slots := #[.int (-63)], vm := .none },
  { cls := 13, slots := #[.int (-62)], vm := .none },
  { cls := 13, slots := #[.int (-61)], vm := .none },
  { cls := 13, slots := #[.int (-60)], vm := .none },
  { cls := 13, slots := #[.int (-59)], vm := .none },
  { cls := 13, slots := #[.int (-58)], vm := .none },
  { cls := 13, slots := #[.int (-57)], vm := .none },
  { cls := 13, slots := #[.int (-56)], vm := .none },
  { cls := 13, slots := #[.int (-55)], vm := .none },
  { cls := 13, slots := #[.int (-54)], vm := .none },
  { cls := 13, slots := #[.int (-53)], vm := .none },
  { cls := 13, slots := #[.int (-52)], vm := .none },
  { cls := 13, slots := #[.int (-51)], vm := .none },
  { cls := 13, slots := #[.int (-50)], vm := .none },
  { cls := 13, slots := #[.int (-49)], vm := .none },
  { cls := 13, slots := #[.int (-48)], vm := .none },
  { cls := 13, slots := #[.int (-47)], vm := .none },
  { cls := 13, slots := #[.int (-46)], vm := .none },
  { cls := 13, slots := #[.int (-45)], vm := .none },
  { cls := 13, slots := #[.int (-44)], vm := .none },
  { cls := 13, slots := #[.int (-43)], vm := .none },
  { cls := 13, slots := #[.int (-42)], vm := .none },
  { cls := 13, slots := #[.int (-41)], vm := .none },
  { cls := 13, slots := #[.int (-40)], vm := .none },
  { cls := 13, slots := #[.int (-39)], vm := .none },
  { cls := 13, slots := #[.int (-38)], vm := .none },
  { cls := 13, slots := #[.int (-37)], vm := .none },
  { cls := 13, slots := #[.int (-36)], vm := .none },
  { cls := 13, slots := #[.int (-35)], vm := .none },
  { cls := 13, slots := #[.int (-34)], vm := .none },
  { cls := 13, slots := #[.int (-33)], vm := .none },
  { cls := 13, slots := #[.int (-32)], vm := .none },
  { cls := 13, slots := #[.int (-31)], vm := .none },
  { cls := 13, slots := #[.int (-30)], vm := .none },
  { cls := 13, slots := #[.int (-29)], vm := .none },
  { cls := 13, slots := #[.int (-28)], vm := .none },
  { cls := 13, slots := #[.int (-27)], vm := .none },
  { cls := 13, slots := #[.int (-26)], vm := .none },
  { cls := 13, slots := #[.int (-25)], vm := .none },
  { cls := 13, slots := #[.int (-24)], vm := .none },
  { cls := 13, slots := #[.int (-23)], vm := .none },
  { cls := 13, slots := #[.int (-22)], vm := .none },
  { cls := 13, slots := #[.int (-21)], vm := .none },
  { cls := 13, slots := #[.int (-20)], vm := .none },
  { cls := 13, slots := #[.int (-19)], vm := .none },
  { cls := 13, slots := #[.int (-18)], vm := .none },
  { cls := 13, slots := #[.int (-17)], vm := .none },
  { cls := 13, slots := #[.int (-16)], vm := .none },
  { cls := 13, slots := #[.int (-15)], vm := .none },
  { cls := 13, slots := #[.int (-14)], vm := .none },
  { cls := 13, slots := #[.int (-13)], vm := .none },
  { cls := 13, slots := #[.int (-12)], vm := .none },
  { cls := 13, slots := #[.int (-11)], vm := .none },
  { cls := 13, slots := #[.int (-10)], vm := .none },
  { cls := 13, slots := #[.int (-9)], vm := .none },
  { cls := 13, slots := #[.int (-8)], vm := .none },
  { cls := 13, slots := #[.int (-7)], vm := .none },
  { cls := 13, slots := #[.int (-6)], vm := .none },
  { cls := 13, slots := #[.int (-5)], vm := .none },
  { cls := 13, slots := #[.int (-4)], vm := .none },
  { cls := 13, slots := #[.int (-3)], vm := .none },
  { cls := 13, slots := #[.int (-2)], vm := .none },
  { cls := 13, slots := #[.int (-1)], vm := .none },
  { cls := 13, slots := #[.int 0], vm := .none },
  { cls := 13, slots := #[.int 1], vm := .none },
  { cls := 13, slots := #[.int 2], vm := .none },
  { cls := 13, slots := #[.int 3], vm := .none },
  { cls := 13, slots := #[.int 4], vm := .none },
  { cls := 13, slots := #[.int 5], vm := .none },
  { cls := 13, slots := #[.int 6], vm := .none },
  { cls := 13, slots := #[.int 7], vm := .none },
  { cls := 13, slots := #[.int 8], vm := .none },
  { cls := 13, slots := #[.int 9], vm := .none },
  { cls := 13, slots := #[.int 10], vm := .none },
  { cls := 13, slots := #[.int 11], vm := .none },
  { cls := 13, slots := #[.int 12], vm := .none },
  { cls := 13, slots := #[.int 13], vm := .none },
  { cls := 13, slots := #[.int 14], vm := .none },
  { cls := 13, slots := #[.int 15], vm := .none },
  { cls := 13, slots := #[.int 16], vm := .none },
  { cls := 13, slots := #[.int 17], vm := .none },
  { cls := 13, slots := #[.int 18], vm := .none },
  { cls := 13, slots := #[.int 19], vm := .none },
  { cls := 13, slots := #[.int 20], vm := .none },
  { cls := 13, slots := #[.int 21], vm := .none },
  { cls := 13, slots := #[.int 22], vm := .none },
  { cls := 13, slots := #[.int 23], vm := .none },
  { cls := 13, slots := #[.int 24], vm := .none },
  { cls := 13, slots := #[.int 25], vm := .none },
  { cls := 13, slots := #[.int 26], vm := .none },
  { cls := 13, slots := #[.int 27], vm := .none },
  { cls := 13, slots := #[.int 28], vm := .none },
  { cls := 13, slots := #[.int 29], vm := .none },
  { cls := 13, slots := #[.int 30], vm := .none },
  { cls := 13, slots := #[.int 31], vm := .none },
  { cls := 13, slots := #[.int 32], vm := .none },
  { cls := 13, slots := #[.int 33], vm := .none },
  { cls := 13, slots := #[.int 34], vm := .none },
  { cls := 13, slots := #[.int 35], vm := .none },
  { cls := 13, slots := #[.int 36], vm := .none },
  { cls := 13, slots := #[.int 37], vm := .none },
  { cls := 13, slots := #[.int 38], vm := .none },
  { cls := 13, slots := #[.int 39], vm := .none },
  { cls := 13, slots := #[.int 40], vm := .none },
  { cls := 13, slots := #[.int 41], vm := .none },
  { cls := 13, slots := #[.int 42], vm := .none },
  { cls := 13, slots := #[.int 43], vm := .none },
  { cls := 13, slots := #[.int 44], vm := .none },
  { cls := 13, slots := #[.int 45], vm := .none },
  { cls := 13, slots := #[.int 46], vm := .none },
  { cls := 13, slots := #[.int 47], vm := .none },
  { cls := 13, slots := #[.int 48], vm := .none },
  { cls := 13, slots := #[.int 49], vm := .none },
  { cls := 13, slots := #[.int 50], vm := .none },
  { cls := 13, slots := #[.int 51], vm := .none },
  { cls := 13, slots := #[.int 52], vm := .none },
  { cls := 13, slots := #[.int 53], vm := .none },
  { cls := 13, slots := #[.int 54], vm := .none },
  { cls := 13, slots := #[.int 55], vm := .none },
  { cls := 13, slots := #[.int 56], vm := .none },
  { cls := 13, slots := #[.int 57], vm := .none },
  { cls := 13, slots := #[.int 58], vm := .none },
  { cls := 13, slots := #[.int 59], vm := .none },
  { cls := 13, slots := #[.int 60], vm := .none },
  { cls := 13, slots := #[.int 61], vm := .none },
  { cls := 13, slots := #[.int 62], vm := .none },
  { cls := 13, slots := #[.int 63], vm := .none },
  { cls := 13, slots := #[.int 64], vm := .none },
  { cls := 13, slots := #[.int 65], vm := .none },
  { cls := 13, slots := #[.int 66], vm := .none },
  { cls := 13, slots := #[.int 67], vm := .none },
  { cls := 13, slots := #[.int 68], vm := .none },
  { cls := 13, slots := #[.int 69], vm := .none },
  { cls := 13, slots := #[.int 70], vm := .none },
  { cls := 13, slots := #[.int 71], vm := .none },
  { cls := 13, slots := #[.int 72], vm := .none },
  { cls := 13, slots := #[.int 73], vm := .none },
  { cls := 13, slots := #[.int 74], vm := .none },
  { cls := 13, slots := #[.int 75], vm := .none },
  { cls := 13, slots := #[.int 76], vm := .none },
  { cls := 13, slots := #[.int 77], vm := .none },
  { cls := 13, slots := #[.int 78], vm := .none },
  { cls := 13, slots := #[.int 79], vm := .none },
  { cls := 13, slots := #[.int 80], vm := .none },
  { cls := 13, slots := #[.int 81], vm := .none },
  { cls := 13, slots := #[.int 82], vm := .none },
  { cls := 13, slots := #[.int 83], vm := .none },
  { cls := 13, slots := #[.int 84], vm := .none },
  { cls := 13, slots := #[.int 85], vm := .none },
  { cls := 13, slots := #[.int 86], vm := .none },
  { cls := 13, slots := #[.int 87], vm := .none },
  { cls := 13, slots := #[.int 88], vm := .none },
  { cls := 13, slots := #[.int 89], vm := .none },
  { cls := 13, slots := #[.int 90], vm := .none },
  { cls := 13, slots := #[.int 91], vm := .none },
  { cls := 13, slots := #[.int 92], vm := .none },
  { cls := 13, slots := #[.int 93], vm := .none },
  { cls := 13, slots := #[.int 94], vm := .none },
  { cls := 13, slots := #[.int 95], vm := .none },
  { cls := 13, slots := #[.int 96], vm := .none },
  { cls := 13, slots := #[.int 97], vm := .none },
  { cls := 13, slots := #[.int 98], vm := .none },
  { cls := 13, slots := #[.int 99], vm := .none },
  { cls := 13, slots := #[.int 100], vm := .none },
  { cls := 13, slots := #[.int 101], vm := .none },
  { cls := 13, slots := #[.int 102], vm := .none },
  { cls := 13, slots := #[.int 103], vm := .none },
  { cls := 13, slots := #[.int 104], vm := .none },
  { cls := 13, slots := #[.int 105], vm := .none },
  { cls := 13, slots := #[.int 106], vm := .none },
  { cls := 13, slots := #[.int 107], vm := .none },
  { cls := 13, slots := #[.int 108], vm := .none },
  { cls := 13, slots := #[.int 109], vm := .none },
  { cls := 13, slots := #[.int 110], vm := .none },
  { cls := 13, slots := #[.int 111], vm := .none },
  { cls := 13, slots := #[.int 112], vm := .none },
  { cls := 13, slots := #[.int 113], vm := .none },
  { cls := 13, slots := #[.int 114], vm := .none },
  { cls := 13, slots := #[.int 115], vm := .none },
  { cls := 13, slots := #[.int 116], vm := .none },
  { cls := 13, slots := #[.int 117], vm := .none },
  { cls := 13, slots := #[.int 118], vm := .none },
  { cls := 13, slots := #[.int 119], vm := .none },
  { cls := 13, slots := #[.int 120], vm := .none },
  { cls := 13, slots := #[.int 121], vm := .none },
  { cls := 13, slots := #[.int 122], vm := .none },
  { cls := 13, slots := #[.int 123], vm := .none },
  { cls := 13, slots := #[.int 124], vm := .none },
  { cls := 13, slots := #[.int 125], vm := .none },
  { cls := 13, slots := #[.int 126], vm := .none },
  { cls := 13, slots := #[.int 127], vm := .none }]
def classes : Array Class := #[k0, k1, k2, k3, k4, k5, k6, k7, k8, k9, k10, k11, k12, k13, k14, k15, k16, k17, k18, k19, k20, k21, k22, k23, k24, k25]
def interned : List (Array UInt16 × Addr) := []
def slotsUsed : Nat := 519
def theMethod : MethodId := ⟨1, 1⟩
def args0 : Array Value := #[.int 3, .int 4, .int 5, .int 6]
def aboutOver (below : List Frame) : State where
  vm := { classes := classes, interned := interned.toArray }
  heap := heap
  slotsUsed := slotsUsed
  threads := #[{ frames := .invoking theMethod args0 :: below }]
def below0 : List Frame := [.native { method := ⟨0, 0⟩, args := #[] }]
def about1 : State := aboutOver below0
def p0 : Program := .bare "" "" ""
def e0 : Env := launch0.env 0 0 0
theorem w_frames : about1.frames = Frame.invoking theMethod args0 :: below0 := rfl
set_option maxRecDepth 65536 in
theorem w_args : argsFit about1.vm theMethod args0 = true := by decide +kernel
set_option maxRecDepth 65536 in
theorem w_heap : heapFits about1 = true := by decide +kernel
set_option maxRecDepth 65536 in
theorem w_runnable : about1.curStatus? = some .runnable := by decide +kernel
set_option maxRecDepth 65536 in
theorem w_alone : about1.alone = true := by decide +kernel
set_option maxRecDepth 65536 in
theorem w_named : about1.methodNamed? x = some theMethod := by decide +kernel
set_option maxRecDepth 65536 in
theorem w_hears : about1.hears theMethod below0 = true := by decide +kernel
set_option maxRecDepth 65536 in
theorem w_ripe : about1.ripe theMethod args0 below0 = true := by decide +kernel
theorem w_running : about1.status = .running := rfl
set_option maxRecDepth 65536 in
theorem w_room : about1.hasRoom e0.platform room_1 = true :=
  launch0.hasRoom_least _ room_1 (by decide +kernel) (by decide +kernel) (by decide +kernel) (by decide +kernel) (by decide +kernel) (by decide +kernel)
theorem allAtoms_all (ts : List Jvm.Cond) (a : Array Jvm.Value) (st : Jvm.State) : (allAtoms ts).before a st = ts.all (fun c => c.before a st) := by
  induction ts with
  | nil => rfl
  | cons c t ih =>
    show (Jvm.Cond.and c (allAtoms t)).before a st = _
    rw [Jvm.Cond.before_and, ih, List.all_cons]
def words1 : List Jvm.Cond := Jvm.Cond.code x code maxLocals ret :: tables_1
/-- a 'code' word, met by the world's own term for the bytes: nothing is compared byte by byte -/
theorem code_word {y : MethodName} {bytes : ByteArray} {mx : Nat} {rt : Option FieldType} {a : Array Value} {s : State} {m : MethodId} {meth : Method} {c : Code} (h1 : s.methodNamed? y = some m) (h2 : s.vm.method? m = some meth) (h3 : meth.code = some c) (h4 : c.code = bytes)
    (h5 : (c.maxLocals == mx && c.exceptionTable.isEmpty && decide (c.maxStack ≤ mostOperands) && decide (meth.sig.returnType = rt) && !meth.locks && decide (parseMethodDescriptor y.desc = some meth.sig)) = true) : (Jvm.Cond.code y bytes mx rt).before a s = true := by
  simp only [Bool.and_eq_true, beq_iff_eq, Bool.not_eq_true', decide_eq_true_eq] at h5
  obtain ⟨⟨⟨⟨⟨g1, g2⟩, g3⟩, g4⟩, g5⟩, g6⟩ := h5
  simp [Cond.before, Cond.holds, Cond.value, h1, h2, h3, h4, g1, g2, g3, g4, g5, g6]
def isCode : Jvm.Cond → Bool
  | .code _ _ _ _ => true
  | _ => false
theorem all_split {L : List Jvm.Cond} {P : Jvm.Cond → Bool} (h1 : L.all (fun c => isCode c || P c) = true) (h2 : ∀ c ∈ L.filter isCode, P c = true) : L.all P = true := by
  refine List.all_eq_true.mpr fun c hc => ?_
  have h := List.all_eq_true.mp h1 c hc
  rcases Bool.eq_false_or_eq_true (isCode c) with hi | hi
  · exact h2 c (List.mem_filter.mpr ⟨hc, hi⟩)
  · simpa [hi] using h
set_option maxRecDepth 65536 in
theorem w_c0 : (Jvm.Cond.code x code maxLocals ret).before args0 about1 = true := code_word (m := ⟨1, 1⟩) (meth := k1m1) (c := k1c1) (by decide +kernel) rfl rfl rfl (by decide +kernel)
set_option maxRecDepth 65536 in
theorem w_c1 : (Jvm.Cond.code ({ cls := "com/example/dramatis/dramatis/analysis/RoleGraph$Targets", name := "<init>", desc := "()V" } : Jvm.MethodName) prog_31_method_1_code (1 : Nat) (Option.none : Option Jvm.ClassFile.FieldType)).before args0 about1 = true := code_word (m := ⟨7, 0⟩) (meth := k7m0) (c := k7c0) (by decide +kernel) rfl rfl rfl (by decide +kernel)
set_option maxRecDepth 65536 in
theorem w_c2 : (Jvm.Cond.code ({ cls := "java/util/AbstractSet", name := "<init>", desc := "()V" } : Jvm.MethodName) jdk_91_method_1_code (1 : Nat) (Option.none : Option Jvm.ClassFile.FieldType)).before args0 about1 = true := code_word (m := ⟨6, 0⟩) (meth := k6m0) (c := k6c0) (by decide +kernel) rfl rfl rfl (by decide +kernel)
set_option maxRecDepth 65536 in
theorem w_c3 : (Jvm.Cond.code ({ cls := "java/util/AbstractCollection", name := "<init>", desc := "()V" } : Jvm.MethodName) jdk_22_method_1_code (1 : Nat) (Option.none : Option Jvm.ClassFile.FieldType)).before args0 about1 = true := code_word (m := ⟨4, 0⟩) (meth := k4m0) (c := k4c0) (by decide +kernel) rfl rfl rfl (by decide +kernel)
set_option maxRecDepth 65536 in
theorem w_c4 : (Jvm.Cond.code ({ cls := "java/lang/Object", name := "<init>", desc := "()V" } : Jvm.MethodName) object_method_1_code (1 : Nat) (Option.none : Option Jvm.ClassFile.FieldType)).before args0 about1 = true := code_word (m := ⟨0, 0⟩) (meth := k0m0) (c := k0c0) (by decide +kernel) rfl rfl rfl (by decide +kernel)
set_option maxRecDepth 65536 in
theorem w_c5 : (Jvm.Cond.code ({ cls := "com/example/dramatis/dramatis/analysis/RoleGraph$Targets", name := "isEmpty", desc := "()Z" } : Jvm.MethodName) prog_31_method_5_code (1 : Nat) (Option.some Jvm.ClassFile.FieldType.boolean)).before args0 about1 = true := code_word (m := ⟨7, 1⟩) (meth := k7m1) (c := k7c1) (by decide +kernel) rfl rfl rfl (by decide +kernel)
set_option maxRecDepth 65536 in
theorem w_c6 : (Jvm.Cond.code ({ cls := "java/lang/Integer", name := "valueOf", desc := "(I)Ljava/lang/Integer;" } : Jvm.MethodName) jdk_33_method_22_code (1 : Nat) (Option.some (Jvm.ClassFile.FieldType.object "java/lang/Integer"))).before args0 about1 = true := code_word (m := ⟨13, 0⟩) (meth := k13m0) (c := k13c0) (by decide +kernel) rfl rfl rfl (by decide +kernel)
set_option maxRecDepth 65536 in
theorem w_c7 : (Jvm.Cond.code ({ cls := "com/example/dramatis/dramatis/analysis/RoleGraph$Targets", name := "remove", desc := "(Ljava/lang/Object;)Z" } : Jvm.MethodName) prog_31_method_13_code (3 : Nat) (Option.some Jvm.ClassFile.FieldType.boolean)).before args0 about1 = true := code_word (m := ⟨7, 4⟩) (meth := k7m4) (c := k7c4) (by decide +kernel) rfl rfl rfl (by decide +kernel)
set_option maxRecDepth 65536 in
theorem w_c8 : (Jvm.Cond.code ({ cls := "com/example/dramatis/dramatis/analysis/RoleGraph$Targets", name := "contains", desc := "(Ljava/lang/Object;)Z" } : Jvm.MethodName) prog_31_method_6_code (3 : Nat) (Option.some Jvm.ClassFile.FieldType.boolean)).before args0 about1 = true := code_word (m := ⟨7, 2⟩) (meth := k7m2) (c := k7c2) (by decide +kernel) rfl rfl rfl (by decide +kernel)
set_option maxRecDepth 65536 in
theorem w_c9 : (Jvm.Cond.code ({ cls := "java/lang/Integer", name := "intValue", desc := "()I" } : Jvm.MethodName) jdk_33_method_27_code (1 : Nat) (Option.some Jvm.ClassFile.FieldType.int)).before args0 about1 = true := code_word (m := ⟨13, 2⟩) (meth := k13m2) (c := k13c2) (by decide +kernel) rfl rfl rfl (by decide +kernel)
set_option maxRecDepth 65536 in
theorem w_c10 : (Jvm.Cond.code ({ cls := "com/example/dramatis/dramatis/analysis/RoleGraph$Targets", name := "has", desc := "(I)Z" } : Jvm.MethodName) prog_31_method_17_code (3 : Nat) (Option.some Jvm.ClassFile.FieldType.boolean)).before args0 about1 = true := code_word (m := ⟨7, 7⟩) (meth := k7m7) (c := k7c7) (by decide +kernel) rfl rfl rfl (by decide +kernel)
set_option maxRecDepth 65536 in
theorem w_c11 : (Jvm.Cond.code ({ cls := "java/lang/Integer", name := "<init>", desc := "(I)V" } : Jvm.MethodName) jdk_33_method_23_code (2 : Nat) (Option.none : Option Jvm.ClassFile.FieldType)).before args0 about1 = true := code_word (m := ⟨13, 1⟩) (meth := k13m1) (c := k13c1) (by decide +kernel) rfl rfl rfl (by decide +kernel)
set_option maxRecDepth 65536 in
theorem w_c12 : (Jvm.Cond.code ({ cls := "java/lang/Number", name := "<init>", desc := "()V" } : Jvm.MethodName) jdk_18_method_1_code (1 : Nat) (Option.none : Option Jvm.ClassFile.FieldType)).before args0 about1 = true := code_word (m := ⟨9, 0⟩) (meth := k9m0) (c := k9c0) (by decide +kernel) rfl rfl rfl (by decide +kernel)
set_option maxRecDepth 65536 in
theorem w_c13 : (Jvm.Cond.code ({ cls := "com/example/dramatis/dramatis/analysis/RoleGraph$Targets", name := "add", desc := "(Ljava/lang/Integer;)Z" } : Jvm.MethodName) prog_31_method_7_code (2 : Nat) (Option.some Jvm.ClassFile.FieldType.boolean)).before args0 about1 = true := code_word (m := ⟨7, 3⟩) (meth := k7m3) (c := k7c3) (by decide +kernel) rfl rfl rfl (by decide +kernel)
set_option maxRecDepth 65536 in
theorem w_c14 : (Jvm.Cond.code ({ cls := "com/example/dramatis/dramatis/analysis/RoleGraph$Targets", name := "setBit", desc := "(I)Z" } : Jvm.MethodName) prog_31_method_16_code (4 : Nat) (Option.some Jvm.ClassFile.FieldType.boolean)).before args0 about1 = true := code_word (m := ⟨7, 6⟩) (meth := k7m6) (c := k7c6) (by decide +kernel) rfl rfl rfl (by decide +kernel)
set_option maxRecDepth 65536 in
theorem w_c15 : (Jvm.Cond.code ({ cls := "java/util/Arrays", name := "copyOf", desc := "([JI)[J" } : Jvm.MethodName) jdk_65_method_124_code (3 : Nat) (Option.some (Jvm.ClassFile.FieldType.array Jvm.ClassFile.FieldType.long))).before args0 about1 = true := code_word (m := ⟨15, 2⟩) (meth := k15m2) (c := k15c2) (by decide +kernel) rfl rfl rfl (by decide +kernel)
set_option maxRecDepth 65536 in
theorem w_c16 : (Jvm.Cond.code ({ cls := "java/lang/Math", name := "min", desc := "(II)I" } : Jvm.MethodName) jdk_29_method_69_code (2 : Nat) (Option.some Jvm.ClassFile.FieldType.int)).before args0 about1 = true := code_word (m := ⟨16, 1⟩) (meth := k16m1) (c := k16c1) (by decide +kernel) rfl rfl rfl (by decide +kernel)
set_option maxRecDepth 65536 in
theorem w_c17 : (Jvm.Cond.code ({ cls := "com/example/dramatis/dramatis/analysis/RoleGraph$Targets", name := "clearBit", desc := "(I)V" } : Jvm.MethodName) prog_31_method_18_code (2 : Nat) (Option.none : Option Jvm.ClassFile.FieldType)).before args0 about1 = true := code_word (m := ⟨7, 8⟩) (meth := k7m8) (c := k7c8) (by decide +kernel) rfl rfl rfl (by decide +kernel)
set_option maxRecDepth 65536 in
theorem w_c18 : (Jvm.Cond.code ({ cls := "com/example/dramatis/dramatis/analysis/RoleGraph$Targets", name := "clear", desc := "()V" } : Jvm.MethodName) prog_31_method_14_code (1 : Nat) (Option.none : Option Jvm.ClassFile.FieldType)).before args0 about1 = true := code_word (m := ⟨7, 5⟩) (meth := k7m5) (c := k7c5) (by decide +kernel) rfl rfl rfl (by decide +kernel)
set_option maxRecDepth 65536 in
theorem w_c19 : (Jvm.Cond.code ({ cls := "java/util/Arrays", name := "fill", desc := "([JJ)V" } : Jvm.MethodName) jdk_65_method_101_code (5 : Nat) (Option.none : Option Jvm.ClassFile.FieldType)).before args0 about1 = true := code_word (m := ⟨15, 1⟩) (meth := k15m1) (c := k15c1) (by decide +kernel) rfl rfl rfl (by decide +kernel)
def codes1 : List Jvm.Cond := [Jvm.Cond.code x code maxLocals ret, Jvm.Cond.code ({ cls := "com/example/dramatis/dramatis/analysis/RoleGraph$Targets", name := "<init>", desc := "()V" } : Jvm.MethodName) prog_31_method_1_code (1 : Nat) (Option.none : Option Jvm.ClassFile.FieldType), Jvm.Cond.code ({ cls := "java/util/AbstractSet", name := "<init>", desc := "()V" } : Jvm.MethodName) jdk_91_method_1_code (1 : Nat) (Option.none : Option Jvm.ClassFile.FieldType), Jvm.Cond.code ({ cls := "java/util/AbstractCollection", name := "<init>", desc := "()V" } : Jvm.MethodName) jdk_22_method_1_code (1 : Nat) (Option.none : Option Jvm.ClassFile.FieldType), Jvm.Cond.code ({ cls := "java/lang/Object", name := "<init>", desc := "()V" } : Jvm.MethodName) object_method_1_code (1 : Nat) (Option.none : Option Jvm.ClassFile.FieldType), Jvm.Cond.code ({ cls := "com/example/dramatis/dramatis/analysis/RoleGraph$Targets", name := "isEmpty", desc := "()Z" } : Jvm.MethodName) prog_31_method_5_code (1 : Nat) (Option.some Jvm.ClassFile.FieldType.boolean), Jvm.Cond.code ({ cls := "java/lang/Integer", name := "valueOf", desc := "(I)Ljava/lang/Integer;" } : Jvm.MethodName) jdk_33_method_22_code (1 : Nat) (Option.some (Jvm.ClassFile.FieldType.object "java/lang/Integer")), Jvm.Cond.code ({ cls := "com/example/dramatis/dramatis/analysis/RoleGraph$Targets", name := "remove", desc := "(Ljava/lang/Object;)Z" } : Jvm.MethodName) prog_31_method_13_code (3 : Nat) (Option.some Jvm.ClassFile.FieldType.boolean), Jvm.Cond.code ({ cls := "com/example/dramatis/dramatis/analysis/RoleGraph$Targets", name := "contains", desc := "(Ljava/lang/Object;)Z" } : Jvm.MethodName) prog_31_method_6_code (3 : Nat) (Option.some Jvm.ClassFile.FieldType.boolean), Jvm.Cond.code ({ cls := "java/lang/Integer", name := "intValue", desc := "()I" } : Jvm.MethodName) jdk_33_method_27_code (1 : Nat) (Option.some Jvm.ClassFile.FieldType.int), Jvm.Cond.code ({ cls := "com/example/dramatis/dramatis/analysis/RoleGraph$Targets", name := "has", desc := "(I)Z" } : Jvm.MethodName) prog_31_method_17_code (3 : Nat) (Option.some Jvm.ClassFile.FieldType.boolean), Jvm.Cond.code ({ cls := "java/lang/Integer", name := "<init>", desc := "(I)V" } : Jvm.MethodName) jdk_33_method_23_code (2 : Nat) (Option.none : Option Jvm.ClassFile.FieldType), Jvm.Cond.code ({ cls := "java/lang/Number", name := "<init>", desc := "()V" } : Jvm.MethodName) jdk_18_method_1_code (1 : Nat) (Option.none : Option Jvm.ClassFile.FieldType), Jvm.Cond.code ({ cls := "com/example/dramatis/dramatis/analysis/RoleGraph$Targets", name := "add", desc := "(Ljava/lang/Integer;)Z" } : Jvm.MethodName) prog_31_method_7_code (2 : Nat) (Option.some Jvm.ClassFile.FieldType.boolean), Jvm.Cond.code ({ cls := "com/example/dramatis/dramatis/analysis/RoleGraph$Targets", name := "setBit", desc := "(I)Z" } : Jvm.MethodName) prog_31_method_16_code (4 : Nat) (Option.some Jvm.ClassFile.FieldType.boolean), Jvm.Cond.code ({ cls := "java/util/Arrays", name := "copyOf", desc := "([JI)[J" } : Jvm.MethodName) jdk_65_method_124_code (3 : Nat) (Option.some (Jvm.ClassFile.FieldType.array Jvm.ClassFile.FieldType.long)), Jvm.Cond.code ({ cls := "java/lang/Math", name := "min", desc := "(II)I" } : Jvm.MethodName) jdk_29_method_69_code (2 : Nat) (Option.some Jvm.ClassFile.FieldType.int), Jvm.Cond.code ({ cls := "com/example/dramatis/dramatis/analysis/RoleGraph$Targets", name := "clearBit", desc := "(I)V" } : Jvm.MethodName) prog_31_method_18_code (2 : Nat) (Option.none : Option Jvm.ClassFile.FieldType), Jvm.Cond.code ({ cls := "com/example/dramatis/dramatis/analysis/RoleGraph$Targets", name := "clear", desc := "()V" } : Jvm.MethodName) prog_31_method_14_code (1 : Nat) (Option.none : Option Jvm.ClassFile.FieldType), Jvm.Cond.code ({ cls := "java/util/Arrays", name := "fill", desc := "([JJ)V" } : Jvm.MethodName) jdk_65_method_101_code (5 : Nat) (Option.none : Option Jvm.ClassFile.FieldType)]
set_option maxRecDepth 65536 in
theorem codes_eq : words1.filter isCode = codes1 := rfl
theorem w_codes : ∀ c ∈ words1.filter isCode, c.before args0 about1 = true := by
  rw [codes_eq]
  intro c hc
  simp only [codes1, List.mem_cons, List.not_mem_nil, or_false] at hc
  rcases hc with rfl | rfl | rfl | rfl | rfl | rfl | rfl | rfl | rfl | rfl | rfl | rfl | rfl | rfl | rfl | rfl | rfl | rfl | rfl | rfl
  · exact w_c0
  · exact w_c1
  · exact w_c2
  · exact w_c3
  · exact w_c4
  · exact w_c5
  · exact w_c6
  · exact w_c7
  · exact w_c8
  · exact w_c9
  · exact w_c10
  · exact w_c11
  · exact w_c12
  · exact w_c13
  · exact w_c14
  · exact w_c15
  · exact w_c16
  · exact w_c17
  · exact w_c18
  · exact w_c19
set_option maxRecDepth 65536 in
theorem w_t1 : (words1.take 24).all (fun c => isCode c || c.before args0 about1) = true := by decide +kernel
set_option maxRecDepth 65536 in
theorem w_t2 : ((words1.drop 24).take 24).all (fun c => isCode c || c.before args0 about1) = true := by decide +kernel
set_option maxRecDepth 65536 in
theorem w_t3 : (((words1.drop 24).drop 24).take 24).all (fun c => isCode c || c.before args0 about1) = true := by decide +kernel
set_option maxRecDepth 65536 in
theorem w_t4 : ((((words1.drop 24).drop 24).drop 24).take 24).all (fun c => isCode c || c.before args0 about1) = true := by decide +kernel
set_option maxRecDepth 65536 in
theorem w_t5 : ((((words1.drop 24).drop 24).drop 24).drop 24).all (fun c => isCode c || c.before args0 about1) = true := by decide +kernel
theorem w_tables : (allAtoms (Jvm.Cond.code x code maxLocals ret :: tables_1)).before args0 about1 = true := by
  rw [allAtoms_all]
  show words1.all (fun c => c.before args0 about1) = true
  refine all_split ?_ w_codes
  rw [← List.take_append_drop 24 words1, List.all_append, w_t1, ← List.take_append_drop 24 (words1.drop 24), List.all_append, w_t2, ← List.take_append_drop 24 ((words1.drop 24).drop 24), List.all_append, w_t3, ← List.take_append_drop 24 (((words1.drop 24).drop 24).drop 24), List.all_append, w_t4, w_t5]
  rfl
set_option maxRecDepth 65536 in
theorem w_rest : rest_1_c.before args0 about1 = true := by decide +kernel
set_option maxRecDepth 65536 in
theorem w_case : (Jvm.Cond.and given_1 narrow_1).before args0 about1 = true := by decide +kernel
theorem w_applies : (headSpec (Jvm.Cond.code x code maxLocals ret :: tables_1) room_1).applies x e0.platform about1 = true :=
  (Spec.applies_iff w_frames).mpr ⟨w_running, w_runnable, w_alone, w_named, w_hears, w_ripe, w_room, w_tables⟩
theorem atStart : AtStart classFile x code maxLocals ret World_1 tables_1 room_1 Calls_1 rest_1 Pre_1 launch0 p0 e0 about1 theMethod args0 below0 :=
  ⟨lists_1, trivial, launch0.admits_env _ _ _, launch0.least_env, fairChoices_fair.cas, fairChoices_fair.clock, w_frames, w_args, w_heap, w_applies, trivial, w_rest, w_case⟩
end start1
theorem witness_1 : WitnessClaimed_1 := ⟨start1.p0, start1.e0, start1.about1, start1.theMethod, start1.args0, start1.below0, start1.atStart⟩
end Jvm.Pilot.@@N@@
