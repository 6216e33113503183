import JvmDerived
import JvmDerived.Pilot.@@N@@Statement
import JvmDerived.Pilot.@@N@@Code
set_option linter.unusedVariables false
set_option linter.unusedSimpArgs false
namespace Jvm.Pilot.@@N@@
open Jvm Jvm.ClassFile Sem Op Lib Jvm.Free Jvm.Stand Jvm.LawKit Jvm.RoadKit Bundle Jvm.Pilot.@@N@@.Jvm.D
theorem own_eqI {args : Array Value} {s : State} {t : Jvm.Term} {k : Int32} (h : (Jvm.Cond.eq t (.int k)).value args s none s [] = some true) : t.eval args s none [] s = some (.int k) := by
  cases ht : t.eval args s none [] s with
  | none => simp [Jvm.Cond.value, ht] at h
  | some x => cases x <;> simp [Jvm.Cond.value, ht, Jvm.Term.eval] at h ⊢; exact h
theorem own_eqR {args : Array Value} {s : State} {t u : Jvm.Term} {w : Addr} (hu : u.eval args s none [] s = some (.ref w)) (h : (Jvm.Cond.eq t u).value args s none s [] = some true) : t.eval args s none [] s = some (.ref w) := by
  cases ht : t.eval args s none [] s with
  | none => simp [Jvm.Cond.value, ht] at h
  | some x => cases x <;> simp [Jvm.Cond.value, ht, hu] at h ⊢; exact h
theorem own_fldI {args : Array Value} {s : State} {t : Jvm.Term} {w : Addr} {C n d : String} {k : Int32} (ht : t.eval args s none [] s = some (.ref w)) (h : (Jvm.Cond.eq (Jvm.Term.field t C n d) (.int k)).value args s none s [] = some true) : Fld s s.heap w C n d (.int k) := Fld.start ((fld_at ht).symm.trans (own_eqI h))
theorem own_fldN {args : Array Value} {s : State} {t : Jvm.Term} {w : Addr} {C n d : String} (ht : t.eval args s none [] s = some (.ref w)) (h : (Jvm.Cond.eq (Jvm.Term.field t C n d) .null).value args s none s [] = some true) : Fld s s.heap w C n d .null := Fld.start ((fld_at ht).symm.trans (null_v h))
theorem own_fldR {args : Array Value} {s : State} {t : Jvm.Term} {w y : Addr} {C n d : String} (ht : t.eval args s none [] s = some (.ref w)) (h : (Jvm.Term.field t C n d).eval args s none [] s = some (.ref y)) : Fld s s.heap w C n d (.ref y) := Fld.start ((fld_at ht).symm.trans h)
theorem own_len {args : Array Value} {s : State} {t : Jvm.Term} {y : Addr} {cl : Cell} {ty : FieldType} {z : Int32} (ht : t.eval args s none [] s = some (.ref y)) (A : Arr s s.heap y cl ty) (h : (Jvm.Cond.eq (Jvm.Term.length t) (.int z)).value args s none s [] = some true) : cl.slots.size.toInt32 = z := by
  obtain ⟨b, cell, e1, e2, -, e4⟩ := Term.length_spec (own_eqI h)
  have hb : y = b := Value.ref.inj (Option.some.inj (ht.symm.trans e1))
  subst hb
  have hc : cell = cl := Option.some.inj (e2.symm.trans (IntBox.arrayAt_of A.1 A.2.1 A.2.2))
  rw [← hc]
theorem own_c3 {y : Int32} (h0 : 0 ≤ y.toInt) (h1 : y.toInt < 3) : y = 0 ∨ y = 1 ∨ y = 2 := by
  have h : y.toInt = 0 ∨ y.toInt = 1 ∨ y.toInt = 2 := by omega
  rcases h with h | h | h <;> simp [← Int32.toInt_inj, h]
theorem own_m3 (x : Int32) : (x &&& (2147483647 : Int32)) % (3 : Int32) = (0 : Int32) ∨ (x &&& (2147483647 : Int32)) % (3 : Int32) = (1 : Int32) ∨ (x &&& (2147483647 : Int32)) % (3 : Int32) = (2 : Int32) := by
  have h := c_mask x 2147483647 31 (by decide) (by decide)
  have h2 := (c_irem (x &&& 2147483647) 3 3 (by decide)).1 (by omega)
  exact own_c3 (by omega) (by omega)
theorem own_ushr0 (x : Int64) : ((x.toUInt64 >>> ((0 : Int32) &&& 0x3f).toInt64.toUInt64).toInt64) = x := by
  have h : ((0 : Int32) &&& 0x3f).toInt64.toUInt64 = 0 := by decide
  rw [h]; simp
theorem own_s1 (x : Int32) : (x &&& (1 : Int32)).toInt64 = (0 : Int64) ∨ (x &&& (1 : Int32)).toInt64 = (1 : Int64) := by
  rcases and_one x with h | h <;> rw [h] <;> decide
theorem own_n_0_0 (fr : Int64) (h0 : 0 ≤ fr.toInt) (h1 : fr.toInt < 1024) : (((((((9218868437227405312 : Int64) ||| (fr <<< ((42 : Int32) &&& 0x3f).toInt64)).toUInt64 >>> ((63 : Int32) &&& 0x3f).toInt64.toUInt64).toInt64) <<< ((15 : Int32) &&& 0x3f).toInt64) ||| (31744 : Int64)) ||| (((((9218868437227405312 : Int64) ||| (fr <<< ((42 : Int32) &&& 0x3f).toInt64)) &&& (4503599627370495 : Int64)).toUInt64 >>> ((42 : Int32) &&& 0x3f).toInt64.toUInt64).toInt64)) = ((31744 : Int64) ||| fr) := by
  have f1 : ((9218868437227405312 : Int64)).toInt = 9218868437227405312 := by decide
  have r2 := rng64 fr
  have f3 := c_lshl fr (42 : Int32) 42 (by decide)
  have r3 := rng64 (fr <<< ((42 : Int32) &&& 0x3f).toInt64)
  have f4 := c_orL (9218868437227405312 : Int64) (fr <<< ((42 : Int32) &&& 0x3f).toInt64) 52 (by decide) 4503599627370496 (by decide) (by omega) (by omega) (by omega)
  have r4 := rng64 ((9218868437227405312 : Int64) ||| (fr <<< ((42 : Int32) &&& 0x3f).toInt64))
  have f5 := c_lushr ((9218868437227405312 : Int64) ||| (fr <<< ((42 : Int32) &&& 0x3f).toInt64)) (63 : Int32) 63 (by decide) (by decide)
  have r5 := rng64 ((((9218868437227405312 : Int64) ||| (fr <<< ((42 : Int32) &&& 0x3f).toInt64)).toUInt64 >>> ((63 : Int32) &&& 0x3f).toInt64.toUInt64).toInt64)
  have f6 := c_lshl ((((9218868437227405312 : Int64) ||| (fr <<< ((42 : Int32) &&& 0x3f).toInt64)).toUInt64 >>> ((63 : Int32) &&& 0x3f).toInt64.toUInt64).toInt64) (15 : Int32) 15 (by decide)
  have r6 := rng64 (((((9218868437227405312 : Int64) ||| (fr <<< ((42 : Int32) &&& 0x3f).toInt64)).toUInt64 >>> ((63 : Int32) &&& 0x3f).toInt64.toUInt64).toInt64) <<< ((15 : Int32) &&& 0x3f).toInt64)
  have f7 : ((31744 : Int64)).toInt = 31744 := by decide
  have f8 := c_orL (((((9218868437227405312 : Int64) ||| (fr <<< ((42 : Int32) &&& 0x3f).toInt64)).toUInt64 >>> ((63 : Int32) &&& 0x3f).toInt64.toUInt64).toInt64) <<< ((15 : Int32) &&& 0x3f).toInt64) (31744 : Int64) 15 (by decide) 32768 (by decide) (by omega) (by omega) (by omega)
  have r8 := rng64 ((((((9218868437227405312 : Int64) ||| (fr <<< ((42 : Int32) &&& 0x3f).toInt64)).toUInt64 >>> ((63 : Int32) &&& 0x3f).toInt64.toUInt64).toInt64) <<< ((15 : Int32) &&& 0x3f).toInt64) ||| (31744 : Int64))
  have f9 := c_maskL ((9218868437227405312 : Int64) ||| (fr <<< ((42 : Int32) &&& 0x3f).toInt64)) (4503599627370495 : Int64) 52 (by decide) (by decide)
  have r9 := rng64 (((9218868437227405312 : Int64) ||| (fr <<< ((42 : Int32) &&& 0x3f).toInt64)) &&& (4503599627370495 : Int64))
  have f10 := c_lushr (((9218868437227405312 : Int64) ||| (fr <<< ((42 : Int32) &&& 0x3f).toInt64)) &&& (4503599627370495 : Int64)) (42 : Int32) 42 (by decide) (by decide)
  have r10 := rng64 (((((9218868437227405312 : Int64) ||| (fr <<< ((42 : Int32) &&& 0x3f).toInt64)) &&& (4503599627370495 : Int64)).toUInt64 >>> ((42 : Int32) &&& 0x3f).toInt64.toUInt64).toInt64)
  have f11 := c_orL ((((((9218868437227405312 : Int64) ||| (fr <<< ((42 : Int32) &&& 0x3f).toInt64)).toUInt64 >>> ((63 : Int32) &&& 0x3f).toInt64.toUInt64).toInt64) <<< ((15 : Int32) &&& 0x3f).toInt64) ||| (31744 : Int64)) (((((9218868437227405312 : Int64) ||| (fr <<< ((42 : Int32) &&& 0x3f).toInt64)) &&& (4503599627370495 : Int64)).toUInt64 >>> ((42 : Int32) &&& 0x3f).toInt64.toUInt64).toInt64) 10 (by decide) 1024 (by decide) (by omega) (by omega) (by omega)
  have r11 := rng64 (((((((9218868437227405312 : Int64) ||| (fr <<< ((42 : Int32) &&& 0x3f).toInt64)).toUInt64 >>> ((63 : Int32) &&& 0x3f).toInt64.toUInt64).toInt64) <<< ((15 : Int32) &&& 0x3f).toInt64) ||| (31744 : Int64)) ||| (((((9218868437227405312 : Int64) ||| (fr <<< ((42 : Int32) &&& 0x3f).toInt64)) &&& (4503599627370495 : Int64)).toUInt64 >>> ((42 : Int32) &&& 0x3f).toInt64.toUInt64).toInt64))
  have f12 := c_orL (31744 : Int64) fr 10 (by decide) 1024 (by decide) (by omega) (by omega) (by omega)
  have r12 := rng64 ((31744 : Int64) ||| fr)
  rw [← Int64.toInt_inj]
  omega
theorem own_n_0_1 (fr : Int64) (h0 : 0 ≤ fr.toInt) (h1 : fr.toInt < 1024) : (((((((-4503599627370496 : Int64) ||| (fr <<< ((42 : Int32) &&& 0x3f).toInt64)).toUInt64 >>> ((63 : Int32) &&& 0x3f).toInt64.toUInt64).toInt64) <<< ((15 : Int32) &&& 0x3f).toInt64) ||| (31744 : Int64)) ||| (((((-4503599627370496 : Int64) ||| (fr <<< ((42 : Int32) &&& 0x3f).toInt64)) &&& (4503599627370495 : Int64)).toUInt64 >>> ((42 : Int32) &&& 0x3f).toInt64.toUInt64).toInt64)) = ((64512 : Int64) ||| fr) := by
  have f1 : ((-4503599627370496 : Int64)).toInt = -4503599627370496 := by decide
  have r2 := rng64 fr
  have f3 := c_lshl fr (42 : Int32) 42 (by decide)
  have r3 := rng64 (fr <<< ((42 : Int32) &&& 0x3f).toInt64)
  have f4 := c_orL (-4503599627370496 : Int64) (fr <<< ((42 : Int32) &&& 0x3f).toInt64) 52 (by decide) 4503599627370496 (by decide) (by omega) (by omega) (by omega)
  have r4 := rng64 ((-4503599627370496 : Int64) ||| (fr <<< ((42 : Int32) &&& 0x3f).toInt64))
  have f5 := c_lushr ((-4503599627370496 : Int64) ||| (fr <<< ((42 : Int32) &&& 0x3f).toInt64)) (63 : Int32) 63 (by decide) (by decide)
  have r5 := rng64 ((((-4503599627370496 : Int64) ||| (fr <<< ((42 : Int32) &&& 0x3f).toInt64)).toUInt64 >>> ((63 : Int32) &&& 0x3f).toInt64.toUInt64).toInt64)
  have f6 := c_lshl ((((-4503599627370496 : Int64) ||| (fr <<< ((42 : Int32) &&& 0x3f).toInt64)).toUInt64 >>> ((63 : Int32) &&& 0x3f).toInt64.toUInt64).toInt64) (15 : Int32) 15 (by decide)
  have r6 := rng64 (((((-4503599627370496 : Int64) ||| (fr <<< ((42 : Int32) &&& 0x3f).toInt64)).toUInt64 >>> ((63 : Int32) &&& 0x3f).toInt64.toUInt64).toInt64) <<< ((15 : Int32) &&& 0x3f).toInt64)
  have f7 : ((31744 : Int64)).toInt = 31744 := by decide
  have f8 := c_orL (((((-4503599627370496 : Int64) ||| (fr <<< ((42 : Int32) &&& 0x3f).toInt64)).toUInt64 >>> ((63 : Int32) &&& 0x3f).toInt64.toUInt64).toInt64) <<< ((15 : Int32) &&& 0x3f).toInt64) (31744 : Int64) 15 (by decide) 32768 (by decide) (by omega) (by omega) (by omega)
  have r8 := rng64 ((((((-4503599627370496 : Int64) ||| (fr <<< ((42 : Int32) &&& 0x3f).toInt64)).toUInt64 >>> ((63 : Int32) &&& 0x3f).toInt64.toUInt64).toInt64) <<< ((15 : Int32) &&& 0x3f).toInt64) ||| (31744 : Int64))
  have f9 := c_maskL ((-4503599627370496 : Int64) ||| (fr <<< ((42 : Int32) &&& 0x3f).toInt64)) (4503599627370495 : Int64) 52 (by decide) (by decide)
  have r9 := rng64 (((-4503599627370496 : Int64) ||| (fr <<< ((42 : Int32) &&& 0x3f).toInt64)) &&& (4503599627370495 : Int64))
  have f10 := c_lushr (((-4503599627370496 : Int64) ||| (fr <<< ((42 : Int32) &&& 0x3f).toInt64)) &&& (4503599627370495 : Int64)) (42 : Int32) 42 (by decide) (by decide)
  have r10 := rng64 (((((-4503599627370496 : Int64) ||| (fr <<< ((42 : Int32) &&& 0x3f).toInt64)) &&& (4503599627370495 : Int64)).toUInt64 >>> ((42 : Int32) &&& 0x3f).toInt64.toUInt64).toInt64)
  have f11 := c_orL ((((((-4503599627370496 : Int64) ||| (fr <<< ((42 : Int32) &&& 0x3f).toInt64)).toUInt64 >>> ((63 : Int32) &&& 0x3f).toInt64.toUInt64).toInt64) <<< ((15 : Int32) &&& 0x3f).toInt64) ||| (31744 : Int64)) (((((-4503599627370496 : Int64) ||| (fr <<< ((42 : Int32) &&& 0x3f).toInt64)) &&& (4503599627370495 : Int64)).toUInt64 >>> ((42 : Int32) &&& 0x3f).toInt64.toUInt64).toInt64) 10 (by decide) 1024 (by decide) (by omega) (by omega) (by omega)
  have r11 := rng64 (((((((-4503599627370496 : Int64) ||| (fr <<< ((42 : Int32) &&& 0x3f).toInt64)).toUInt64 >>> ((63 : Int32) &&& 0x3f).toInt64.toUInt64).toInt64) <<< ((15 : Int32) &&& 0x3f).toInt64) ||| (31744 : Int64)) ||| (((((-4503599627370496 : Int64) ||| (fr <<< ((42 : Int32) &&& 0x3f).toInt64)) &&& (4503599627370495 : Int64)).toUInt64 >>> ((42 : Int32) &&& 0x3f).toInt64.toUInt64).toInt64))
  have f12 : ((64512 : Int64)).toInt = 64512 := by decide
  have f13 := c_orL (64512 : Int64) fr 10 (by decide) 1024 (by decide) (by omega) (by omega) (by omega)
  have r13 := rng64 ((64512 : Int64) ||| fr)
  rw [← Int64.toInt_inj]
  omega
theorem own_n_1_0 (fr : Int64) (h0 : 0 ≤ fr.toInt) (h1 : fr.toInt < 8388608) : (((((((9218868437227405312 : Int64) ||| (fr <<< ((29 : Int32) &&& 0x3f).toInt64)).toUInt64 >>> ((63 : Int32) &&& 0x3f).toInt64.toUInt64).toInt64) <<< ((31 : Int32) &&& 0x3f).toInt64) ||| (2139095040 : Int64)) ||| (((((9218868437227405312 : Int64) ||| (fr <<< ((29 : Int32) &&& 0x3f).toInt64)) &&& (4503599627370495 : Int64)).toUInt64 >>> ((29 : Int32) &&& 0x3f).toInt64.toUInt64).toInt64)) = ((2139095040 : Int64) ||| fr) := by
  have f1 : ((9218868437227405312 : Int64)).toInt = 9218868437227405312 := by decide
  have r2 := rng64 fr
  have f3 := c_lshl fr (29 : Int32) 29 (by decide)
  have r3 := rng64 (fr <<< ((29 : Int32) &&& 0x3f).toInt64)
  have f4 := c_orL (9218868437227405312 : Int64) (fr <<< ((29 : Int32) &&& 0x3f).toInt64) 52 (by decide) 4503599627370496 (by decide) (by omega) (by omega) (by omega)
  have r4 := rng64 ((9218868437227405312 : Int64) ||| (fr <<< ((29 : Int32) &&& 0x3f).toInt64))
  have f5 := c_lushr ((9218868437227405312 : Int64) ||| (fr <<< ((29 : Int32) &&& 0x3f).toInt64)) (63 : Int32) 63 (by decide) (by decide)
  have r5 := rng64 ((((9218868437227405312 : Int64) ||| (fr <<< ((29 : Int32) &&& 0x3f).toInt64)).toUInt64 >>> ((63 : Int32) &&& 0x3f).toInt64.toUInt64).toInt64)
  have f6 := c_lshl ((((9218868437227405312 : Int64) ||| (fr <<< ((29 : Int32) &&& 0x3f).toInt64)).toUInt64 >>> ((63 : Int32) &&& 0x3f).toInt64.toUInt64).toInt64) (31 : Int32) 31 (by decide)
  have r6 := rng64 (((((9218868437227405312 : Int64) ||| (fr <<< ((29 : Int32) &&& 0x3f).toInt64)).toUInt64 >>> ((63 : Int32) &&& 0x3f).toInt64.toUInt64).toInt64) <<< ((31 : Int32) &&& 0x3f).toInt64)
  have f7 : ((2139095040 : Int64)).toInt = 2139095040 := by decide
  have f8 := c_orL (((((9218868437227405312 : Int64) ||| (fr <<< ((29 : Int32) &&& 0x3f).toInt64)).toUInt64 >>> ((63 : Int32) &&& 0x3f).toInt64.toUInt64).toInt64) <<< ((31 : Int32) &&& 0x3f).toInt64) (2139095040 : Int64) 31 (by decide) 2147483648 (by decide) (by omega) (by omega) (by omega)
  have r8 := rng64 ((((((9218868437227405312 : Int64) ||| (fr <<< ((29 : Int32) &&& 0x3f).toInt64)).toUInt64 >>> ((63 : Int32) &&& 0x3f).toInt64.toUInt64).toInt64) <<< ((31 : Int32) &&& 0x3f).toInt64) ||| (2139095040 : Int64))
  have f9 := c_maskL ((9218868437227405312 : Int64) ||| (fr <<< ((29 : Int32) &&& 0x3f).toInt64)) (4503599627370495 : Int64) 52 (by decide) (by decide)
  have r9 := rng64 (((9218868437227405312 : Int64) ||| (fr <<< ((29 : Int32) &&& 0x3f).toInt64)) &&& (4503599627370495 : Int64))
  have f10 := c_lushr (((9218868437227405312 : Int64) ||| (fr <<< ((29 : Int32) &&& 0x3f).toInt64)) &&& (4503599627370495 : Int64)) (29 : Int32) 29 (by decide) (by decide)
  have r10 := rng64 (((((9218868437227405312 : Int64) ||| (fr <<< ((29 : Int32) &&& 0x3f).toInt64)) &&& (4503599627370495 : Int64)).toUInt64 >>> ((29 : Int32) &&& 0x3f).toInt64.toUInt64).toInt64)
  have f11 := c_orL ((((((9218868437227405312 : Int64) ||| (fr <<< ((29 : Int32) &&& 0x3f).toInt64)).toUInt64 >>> ((63 : Int32) &&& 0x3f).toInt64.toUInt64).toInt64) <<< ((31 : Int32) &&& 0x3f).toInt64) ||| (2139095040 : Int64)) (((((9218868437227405312 : Int64) ||| (fr <<< ((29 : Int32) &&& 0x3f).toInt64)) &&& (4503599627370495 : Int64)).toUInt64 >>> ((29 : Int32) &&& 0x3f).toInt64.toUInt64).toInt64) 23 (by decide) 8388608 (by decide) (by omega) (by omega) (by omega)
  have r11 := rng64 (((((((9218868437227405312 : Int64) ||| (fr <<< ((29 : Int32) &&& 0x3f).toInt64)).toUInt64 >>> ((63 : Int32) &&& 0x3f).toInt64.toUInt64).toInt64) <<< ((31 : Int32) &&& 0x3f).toInt64) ||| (2139095040 : Int64)) ||| (((((9218868437227405312 : Int64) ||| (fr <<< ((29 : Int32) &&& 0x3f).toInt64)) &&& (4503599627370495 : Int64)).toUInt64 >>> ((29 : Int32) &&& 0x3f).toInt64.toUInt64).toInt64))
  have f12 := c_orL (2139095040 : Int64) fr 23 (by decide) 8388608 (by decide) (by omega) (by omega) (by omega)
  have r12 := rng64 ((2139095040 : Int64) ||| fr)
  rw [← Int64.toInt_inj]
  omega
theorem own_n_1_1 (fr : Int64) (h0 : 0 ≤ fr.toInt) (h1 : fr.toInt < 8388608) : (((((((-4503599627370496 : Int64) ||| (fr <<< ((29 : Int32) &&& 0x3f).toInt64)).toUInt64 >>> ((63 : Int32) &&& 0x3f).toInt64.toUInt64).toInt64) <<< ((31 : Int32) &&& 0x3f).toInt64) ||| (2139095040 : Int64)) ||| (((((-4503599627370496 : Int64) ||| (fr <<< ((29 : Int32) &&& 0x3f).toInt64)) &&& (4503599627370495 : Int64)).toUInt64 >>> ((29 : Int32) &&& 0x3f).toInt64.toUInt64).toInt64)) = ((4286578688 : Int64) ||| fr) := by
  have f1 : ((-4503599627370496 : Int64)).toInt = -4503599627370496 := by decide
  have r2 := rng64 fr
  have f3 := c_lshl fr (29 : Int32) 29 (by decide)
  have r3 := rng64 (fr <<< ((29 : Int32) &&& 0x3f).toInt64)
  have f4 := c_orL (-4503599627370496 : Int64) (fr <<< ((29 : Int32) &&& 0x3f).toInt64) 52 (by decide) 4503599627370496 (by decide) (by omega) (by omega) (by omega)
  have r4 := rng64 ((-4503599627370496 : Int64) ||| (fr <<< ((29 : Int32) &&& 0x3f).toInt64))
  have f5 := c_lushr ((-4503599627370496 : Int64) ||| (fr <<< ((29 : Int32) &&& 0x3f).toInt64)) (63 : Int32) 63 (by decide) (by decide)
  have r5 := rng64 ((((-4503599627370496 : Int64) ||| (fr <<< ((29 : Int32) &&& 0x3f).toInt64)).toUInt64 >>> ((63 : Int32) &&& 0x3f).toInt64.toUInt64).toInt64)
  have f6 := c_lshl ((((-4503599627370496 : Int64) ||| (fr <<< ((29 : Int32) &&& 0x3f).toInt64)).toUInt64 >>> ((63 : Int32) &&& 0x3f).toInt64.toUInt64).toInt64) (31 : Int32) 31 (by decide)
  have r6 := rng64 (((((-4503599627370496 : Int64) ||| (fr <<< ((29 : Int32) &&& 0x3f).toInt64)).toUInt64 >>> ((63 : Int32) &&& 0x3f).toInt64.toUInt64).toInt64) <<< ((31 : Int32) &&& 0x3f).toInt64)
  have f7 : ((2139095040 : Int64)).toInt = 2139095040 := by decide
  have f8 := c_orL (((((-4503599627370496 : Int64) ||| (fr <<< ((29 : Int32) &&& 0x3f).toInt64)).toUInt64 >>> ((63 : Int32) &&& 0x3f).toInt64.toUInt64).toInt64) <<< ((31 : Int32) &&& 0x3f).toInt64) (2139095040 : Int64) 31 (by decide) 2147483648 (by decide) (by omega) (by omega) (by omega)
  have r8 := rng64 ((((((-4503599627370496 : Int64) ||| (fr <<< ((29 : Int32) &&& 0x3f).toInt64)).toUInt64 >>> ((63 : Int32) &&& 0x3f).toInt64.toUInt64).toInt64) <<< ((31 : Int32) &&& 0x3f).toInt64) ||| (2139095040 : Int64))
  have f9 := c_maskL ((-4503599627370496 : Int64) ||| (fr <<< ((29 : Int32) &&& 0x3f).toInt64)) (4503599627370495 : Int64) 52 (by decide) (by decide)
  have r9 := rng64 (((-4503599627370496 : Int64) ||| (fr <<< ((29 : Int32) &&& 0x3f).toInt64)) &&& (4503599627370495 : Int64))
  have f10 := c_lushr (((-4503599627370496 : Int64) ||| (fr <<< ((29 : Int32) &&& 0x3f).toInt64)) &&& (4503599627370495 : Int64)) (29 : Int32) 29 (by decide) (by decide)
  have r10 := rng64 (((((-4503599627370496 : Int64) ||| (fr <<< ((29 : Int32) &&& 0x3f).toInt64)) &&& (4503599627370495 : Int64)).toUInt64 >>> ((29 : Int32) &&& 0x3f).toInt64.toUInt64).toInt64)
  have f11 := c_orL ((((((-4503599627370496 : Int64) ||| (fr <<< ((29 : Int32) &&& 0x3f).toInt64)).toUInt64 >>> ((63 : Int32) &&& 0x3f).toInt64.toUInt64).toInt64) <<< ((31 : Int32) &&& 0x3f).toInt64) ||| (2139095040 : Int64)) (((((-4503599627370496 : Int64) ||| (fr <<< ((29 : Int32) &&& 0x3f).toInt64)) &&& (4503599627370495 : Int64)).toUInt64 >>> ((29 : Int32) &&& 0x3f).toInt64.toUInt64).toInt64) 23 (by decide) 8388608 (by decide) (by omega) (by omega) (by omega)
  have r11 := rng64 (((((((-4503599627370496 : Int64) ||| (fr <<< ((29 : Int32) &&& 0x3f).toInt64)).toUInt64 >>> ((63 : Int32) &&& 0x3f).toInt64.toUInt64).toInt64) <<< ((31 : Int32) &&& 0x3f).toInt64) ||| (2139095040 : Int64)) ||| (((((-4503599627370496 : Int64) ||| (fr <<< ((29 : Int32) &&& 0x3f).toInt64)) &&& (4503599627370495 : Int64)).toUInt64 >>> ((29 : Int32) &&& 0x3f).toInt64.toUInt64).toInt64))
  have f12 : ((4286578688 : Int64)).toInt = 4286578688 := by decide
  have f13 := c_orL (4286578688 : Int64) fr 23 (by decide) 8388608 (by decide) (by omega) (by omega) (by omega)
  have r13 := rng64 ((4286578688 : Int64) ||| fr)
  rw [← Int64.toInt_inj]
  omega
theorem own_n_2_0 (fr : Int64) (h0 : 0 ≤ fr.toInt) (h1 : fr.toInt < 4503599627370496) : (((((((9218868437227405312 : Int64) ||| fr).toUInt64 >>> ((63 : Int32) &&& 0x3f).toInt64.toUInt64).toInt64) <<< ((63 : Int32) &&& 0x3f).toInt64) ||| (9218868437227405312 : Int64)) ||| (((((9218868437227405312 : Int64) ||| fr) &&& (4503599627370495 : Int64)).toUInt64 >>> ((0 : Int32) &&& 0x3f).toInt64.toUInt64).toInt64)) = ((9218868437227405312 : Int64) ||| fr) := by
  have f1 : ((9218868437227405312 : Int64)).toInt = 9218868437227405312 := by decide
  have r2 := rng64 fr
  have f3 := c_orL (9218868437227405312 : Int64) fr 52 (by decide) 4503599627370496 (by decide) (by omega) (by omega) (by omega)
  have r3 := rng64 ((9218868437227405312 : Int64) ||| fr)
  have f4 := c_lushr ((9218868437227405312 : Int64) ||| fr) (63 : Int32) 63 (by decide) (by decide)
  have r4 := rng64 ((((9218868437227405312 : Int64) ||| fr).toUInt64 >>> ((63 : Int32) &&& 0x3f).toInt64.toUInt64).toInt64)
  have f5 := c_lshl ((((9218868437227405312 : Int64) ||| fr).toUInt64 >>> ((63 : Int32) &&& 0x3f).toInt64.toUInt64).toInt64) (63 : Int32) 63 (by decide)
  have r5 := rng64 (((((9218868437227405312 : Int64) ||| fr).toUInt64 >>> ((63 : Int32) &&& 0x3f).toInt64.toUInt64).toInt64) <<< ((63 : Int32) &&& 0x3f).toInt64)
  have f6 := c_orL (((((9218868437227405312 : Int64) ||| fr).toUInt64 >>> ((63 : Int32) &&& 0x3f).toInt64.toUInt64).toInt64) <<< ((63 : Int32) &&& 0x3f).toInt64) (9218868437227405312 : Int64) 63 (by decide) 9223372036854775808 (by decide) (by omega) (by omega) (by omega)
  have r6 := rng64 ((((((9218868437227405312 : Int64) ||| fr).toUInt64 >>> ((63 : Int32) &&& 0x3f).toInt64.toUInt64).toInt64) <<< ((63 : Int32) &&& 0x3f).toInt64) ||| (9218868437227405312 : Int64))
  have f7 := c_maskL ((9218868437227405312 : Int64) ||| fr) (4503599627370495 : Int64) 52 (by decide) (by decide)
  have r7 := rng64 (((9218868437227405312 : Int64) ||| fr) &&& (4503599627370495 : Int64))
  have f8 : ((((((9218868437227405312 : Int64) ||| fr) &&& (4503599627370495 : Int64)).toUInt64 >>> ((0 : Int32) &&& 0x3f).toInt64.toUInt64).toInt64)).toInt = ((((9218868437227405312 : Int64) ||| fr) &&& (4503599627370495 : Int64))).toInt := by rw [own_ushr0]
  have r8 := rng64 (((((9218868437227405312 : Int64) ||| fr) &&& (4503599627370495 : Int64)).toUInt64 >>> ((0 : Int32) &&& 0x3f).toInt64.toUInt64).toInt64)
  have f9 := c_orL ((((((9218868437227405312 : Int64) ||| fr).toUInt64 >>> ((63 : Int32) &&& 0x3f).toInt64.toUInt64).toInt64) <<< ((63 : Int32) &&& 0x3f).toInt64) ||| (9218868437227405312 : Int64)) (((((9218868437227405312 : Int64) ||| fr) &&& (4503599627370495 : Int64)).toUInt64 >>> ((0 : Int32) &&& 0x3f).toInt64.toUInt64).toInt64) 52 (by decide) 4503599627370496 (by decide) (by omega) (by omega) (by omega)
  have r9 := rng64 (((((((9218868437227405312 : Int64) ||| fr).toUInt64 >>> ((63 : Int32) &&& 0x3f).toInt64.toUInt64).toInt64) <<< ((63 : Int32) &&& 0x3f).toInt64) ||| (9218868437227405312 : Int64)) ||| (((((9218868437227405312 : Int64) ||| fr) &&& (4503599627370495 : Int64)).toUInt64 >>> ((0 : Int32) &&& 0x3f).toInt64.toUInt64).toInt64))
  rw [← Int64.toInt_inj]
  omega
theorem own_n_2_1 (fr : Int64) (h0 : 0 ≤ fr.toInt) (h1 : fr.toInt < 4503599627370496) : (((((((-4503599627370496 : Int64) ||| fr).toUInt64 >>> ((63 : Int32) &&& 0x3f).toInt64.toUInt64).toInt64) <<< ((63 : Int32) &&& 0x3f).toInt64) ||| (9218868437227405312 : Int64)) ||| (((((-4503599627370496 : Int64) ||| fr) &&& (4503599627370495 : Int64)).toUInt64 >>> ((0 : Int32) &&& 0x3f).toInt64.toUInt64).toInt64)) = ((-4503599627370496 : Int64) ||| fr) := by
  have f1 : ((-4503599627370496 : Int64)).toInt = -4503599627370496 := by decide
  have r2 := rng64 fr
  have f3 := c_orL (-4503599627370496 : Int64) fr 52 (by decide) 4503599627370496 (by decide) (by omega) (by omega) (by omega)
  have r3 := rng64 ((-4503599627370496 : Int64) ||| fr)
  have f4 := c_lushr ((-4503599627370496 : Int64) ||| fr) (63 : Int32) 63 (by decide) (by decide)
  have r4 := rng64 ((((-4503599627370496 : Int64) ||| fr).toUInt64 >>> ((63 : Int32) &&& 0x3f).toInt64.toUInt64).toInt64)
  have f5 := c_lshl ((((-4503599627370496 : Int64) ||| fr).toUInt64 >>> ((63 : Int32) &&& 0x3f).toInt64.toUInt64).toInt64) (63 : Int32) 63 (by decide)
  have r5 := rng64 (((((-4503599627370496 : Int64) ||| fr).toUInt64 >>> ((63 : Int32) &&& 0x3f).toInt64.toUInt64).toInt64) <<< ((63 : Int32) &&& 0x3f).toInt64)
  have f6 : ((9218868437227405312 : Int64)).toInt = 9218868437227405312 := by decide
  have f7 := c_orL (((((-4503599627370496 : Int64) ||| fr).toUInt64 >>> ((63 : Int32) &&& 0x3f).toInt64.toUInt64).toInt64) <<< ((63 : Int32) &&& 0x3f).toInt64) (9218868437227405312 : Int64) 63 (by decide) 9223372036854775808 (by decide) (by omega) (by omega) (by omega)
  have r7 := rng64 ((((((-4503599627370496 : Int64) ||| fr).toUInt64 >>> ((63 : Int32) &&& 0x3f).toInt64.toUInt64).toInt64) <<< ((63 : Int32) &&& 0x3f).toInt64) ||| (9218868437227405312 : Int64))
  have f8 := c_maskL ((-4503599627370496 : Int64) ||| fr) (4503599627370495 : Int64) 52 (by decide) (by decide)
  have r8 := rng64 (((-4503599627370496 : Int64) ||| fr) &&& (4503599627370495 : Int64))
  have f9 : ((((((-4503599627370496 : Int64) ||| fr) &&& (4503599627370495 : Int64)).toUInt64 >>> ((0 : Int32) &&& 0x3f).toInt64.toUInt64).toInt64)).toInt = ((((-4503599627370496 : Int64) ||| fr) &&& (4503599627370495 : Int64))).toInt := by rw [own_ushr0]
  have r9 := rng64 (((((-4503599627370496 : Int64) ||| fr) &&& (4503599627370495 : Int64)).toUInt64 >>> ((0 : Int32) &&& 0x3f).toInt64.toUInt64).toInt64)
  have f10 := c_orL ((((((-4503599627370496 : Int64) ||| fr).toUInt64 >>> ((63 : Int32) &&& 0x3f).toInt64.toUInt64).toInt64) <<< ((63 : Int32) &&& 0x3f).toInt64) ||| (9218868437227405312 : Int64)) (((((-4503599627370496 : Int64) ||| fr) &&& (4503599627370495 : Int64)).toUInt64 >>> ((0 : Int32) &&& 0x3f).toInt64.toUInt64).toInt64) 52 (by decide) 4503599627370496 (by decide) (by omega) (by omega) (by omega)
  have r10 := rng64 (((((((-4503599627370496 : Int64) ||| fr).toUInt64 >>> ((63 : Int32) &&& 0x3f).toInt64.toUInt64).toInt64) <<< ((63 : Int32) &&& 0x3f).toInt64) ||| (9218868437227405312 : Int64)) ||| (((((-4503599627370496 : Int64) ||| fr) &&& (4503599627370495 : Int64)).toUInt64 >>> ((0 : Int32) &&& 0x3f).toInt64.toUInt64).toInt64))
  rw [← Int64.toInt_inj]
  omega
theorem own_d_prog_11_10_0 : decode prog_11_method_10_code 0 = .ok (.lload_n 1, 1) := by decide +kernel
theorem own_d_prog_11_10_1 : decode prog_11_method_10_code 1 = .ok (.bipush 63, 2) := by decide +kernel
theorem own_d_prog_11_10_3 : decode prog_11_method_10_code 3 = .ok (.lushr, 1) := by decide +kernel
theorem own_d_prog_11_10_4 : decode prog_11_method_10_code 4 = .ok (.lstore_n 3, 1) := by decide +kernel
theorem own_d_prog_11_10_5 : decode prog_11_method_10_code 5 = .ok (.lconst 1, 1) := by decide +kernel
theorem own_d_prog_11_10_6 : decode prog_11_method_10_code 6 = .ok (.aload_n 0, 1) := by decide +kernel
theorem own_d_prog_11_10_7 : decode prog_11_method_10_code 7 = .ok (.getfield 32, 3) := by decide +kernel
theorem own_d_prog_11_10_10 : decode prog_11_method_10_code 10 = .ok (.iconst 1, 1) := by decide +kernel
theorem own_d_prog_11_10_11 : decode prog_11_method_10_code 11 = .ok (.isub, 1) := by decide +kernel
theorem own_d_prog_11_10_12 : decode prog_11_method_10_code 12 = .ok (.aload_n 0, 1) := by decide +kernel
theorem own_d_prog_11_10_13 : decode prog_11_method_10_code 13 = .ok (.getfield 36, 3) := by decide +kernel
theorem own_d_prog_11_10_16 : decode prog_11_method_10_code 16 = .ok (.isub, 1) := by decide +kernel
theorem own_d_prog_11_10_17 : decode prog_11_method_10_code 17 = .ok (.lshl, 1) := by decide +kernel
theorem own_d_prog_11_10_18 : decode prog_11_method_10_code 18 = .ok (.lconst 1, 1) := by decide +kernel
theorem own_d_prog_11_10_19 : decode prog_11_method_10_code 19 = .ok (.lsub, 1) := by decide +kernel
theorem own_d_prog_11_10_20 : decode prog_11_method_10_code 20 = .ok (.lstore 5, 2) := by decide +kernel
theorem own_d_prog_11_10_22 : decode prog_11_method_10_code 22 = .ok (.lload_n 1, 1) := by decide +kernel
theorem own_d_prog_11_10_23 : decode prog_11_method_10_code 23 = .ok (.ldc2_w 50, 3) := by decide +kernel
theorem own_d_prog_11_10_26 : decode prog_11_method_10_code 26 = .ok (.land, 1) := by decide +kernel
theorem own_d_prog_11_10_27 : decode prog_11_method_10_code 27 = .ok (.bipush 52, 2) := by decide +kernel
theorem own_d_prog_11_10_29 : decode prog_11_method_10_code 29 = .ok (.aload_n 0, 1) := by decide +kernel
theorem own_d_prog_11_10_30 : decode prog_11_method_10_code 30 = .ok (.getfield 36, 3) := by decide +kernel
theorem own_d_prog_11_10_33 : decode prog_11_method_10_code 33 = .ok (.isub, 1) := by decide +kernel
theorem own_d_prog_11_10_34 : decode prog_11_method_10_code 34 = .ok (.lushr, 1) := by decide +kernel
theorem own_d_prog_11_10_35 : decode prog_11_method_10_code 35 = .ok (.lstore 7, 2) := by decide +kernel
theorem own_d_prog_11_10_37 : decode prog_11_method_10_code 37 = .ok (.lload_n 3, 1) := by decide +kernel
theorem own_d_prog_11_10_38 : decode prog_11_method_10_code 38 = .ok (.aload_n 0, 1) := by decide +kernel
theorem own_d_prog_11_10_39 : decode prog_11_method_10_code 39 = .ok (.getfield 32, 3) := by decide +kernel
theorem own_d_prog_11_10_42 : decode prog_11_method_10_code 42 = .ok (.iconst 1, 1) := by decide +kernel
theorem own_d_prog_11_10_43 : decode prog_11_method_10_code 43 = .ok (.isub, 1) := by decide +kernel
theorem own_d_prog_11_10_44 : decode prog_11_method_10_code 44 = .ok (.lshl, 1) := by decide +kernel
theorem own_d_prog_11_10_45 : decode prog_11_method_10_code 45 = .ok (.lload 5, 2) := by decide +kernel
theorem own_d_prog_11_10_47 : decode prog_11_method_10_code 47 = .ok (.aload_n 0, 1) := by decide +kernel
theorem own_d_prog_11_10_48 : decode prog_11_method_10_code 48 = .ok (.getfield 36, 3) := by decide +kernel
theorem own_d_prog_11_10_51 : decode prog_11_method_10_code 51 = .ok (.lshl, 1) := by decide +kernel
theorem own_d_prog_11_10_52 : decode prog_11_method_10_code 52 = .ok (.lor, 1) := by decide +kernel
theorem own_d_prog_11_10_53 : decode prog_11_method_10_code 53 = .ok (.lload 7, 2) := by decide +kernel
theorem own_d_prog_11_10_55 : decode prog_11_method_10_code 55 = .ok (.lor, 1) := by decide +kernel
theorem own_d_prog_11_10_56 : decode prog_11_method_10_code 56 = .ok (.lreturn, 1) := by decide +kernel
theorem own_pn0 : plainName "com/example/chronotag/chronotag/codec/FloatFormat" = true := by first | (simp [plainName, overriddenIn]; done) | decide +kernel
theorem ef_rmF0 (m : MethodId) (a1 : Addr) (q1 : Int64) : entryFrame m #[(.ref a1), (.long q1)] 9 = mkF m 0 #[.val (.ref a1), .val (.long q1), .second, .unset, .unset, .unset, .unset, .unset, .unset] [] := by first | (simp [entryFrame, mkF, argsToLocals, Value.category]; done) | rfl
def Q_rmF0 (Z : State) (a1 : Addr) (q1 : Int64) (h0 : Heap) (n0 : Nat) (v : Option Value) (h : Heap) (L : List Loc) : Prop := v = some (.long (((((q1.toUInt64 >>> ((63 : Int32) &&& 0x3f).toInt64.toUInt64).toInt64) <<< ((15 : Int32) &&& 0x3f).toInt64) ||| (31744 : Int64)) ||| (((q1 &&& (4503599627370495 : Int64)).toUInt64 >>> ((42 : Int32) &&& 0x3f).toInt64.toUInt64).toInt64))) ∧ Fr n0 L ∧ h = h0
set_option maxRecDepth 65536 in
set_option maxHeartbeats 40000000 in
theorem rmF0 (l : Launch) (Z : State) (a0 : Array Value) (hw : ∀ d ∈ tables_1, d.before a0 Z = true) (ws : List Jvm.Cond) (a1 : Addr) (q1 : Int64) (h0 : Heap) (n0 : Nat) (Z0 : n0 ≤ h0.size) (F1 : Fld Z h0 a1 "com/example/chronotag/chronotag/codec/FloatFormat" "width" "I" (.int (16 : Int32))) (F2 : Fld Z h0 a1 "com/example/chronotag/chronotag/codec/FloatFormat" "fractionWidth" "I" (.int (10 : Int32))) :
    MetFree l (⟨"com/example/chronotag/chronotag/codec/FloatFormat", "narrowNaN", "(J)J"⟩ : MethodName) (head1 (Jvm.Cond.code (⟨"com/example/chronotag/chronotag/codec/FloatFormat", "narrowNaN", "(J)J"⟩ : MethodName) prog_11_method_10_code 9 (some .long) :: ws) ({ frames := 0, cells := 0, slots := 0, locals := 0 } : Room)) (fun a U => a = #[(.ref a1), (.long q1)] ∧ Z.Warmed39 U.vm ∧ U.heap = h0) (fun _ _ _ _ _ => True) (fun _ U o U' => ∃ v L, o = .returned v ∧ Q_rmF0 Z a1 q1 h0 n0 (v) U'.heap (L) ∧ FrameEnd U o U' L 0 0) := by
  refine MetFree.of_bodySF (plainFor_of_name own_pn0) hisR ?_
  intro p e s m args below meth c s₁ Bd hml0 hP hK
  obtain ⟨rfl, hZ, hh⟩ := hP
  have hx := Bd.exec
  have hby := Bd.bytes
  have hml : c.maxLocals = 9 := hml0
  have hown : s.vm.findClass "com/example/chronotag/chronotag/codec/FloatFormat" = some m.cls := findClass_of_methodNamed Bd.named
  have hnm := (name_of_methodNamed Bd.named Bd.method).1
  have X0 : Stand p l e ({ frames := 0, cells := 0, slots := 0, locals := 0 } : Room) s m #[(.ref a1), (.long q1)] below meth c s₁ [] 0 0 := Stand.of_body Bd
  have e0 : s₁.heap = h0 := by rw [← hh, Bd.state]; rfl
  have N0 := Fr.nil n0
  have pre0 : ∀ t, Steps p.tables e below (s₁.setTop (mkF m 0 #[.val (.ref a1), .val (.long q1), .second, .unset, .unset, .unset, .unset, .unset, .unset] [])) t → Steps p.tables e below (s₁.setTop (entryFrame m #[(.ref a1), (.long q1)] 9)) t := fun t k => castTop (ef_rmF0 m a1 q1) k
  obtain ⟨T1, X1, e1, st1⟩ := getF X0 hx hZ hown (host := "") (Or.inl (hw _ (List.mem_of_getElem? (i := 12) rfl))) Via.refl e0 F1 (g := (mkF m 7 #[.val (.ref a1), .val (.long q1), .second, .val (.long ((q1.toUInt64 >>> ((63 : Int32) &&& 0x3f).toInt64.toUInt64).toInt64)), .second, .unset, .unset, .unset, .unset] [(.ref a1), (.long (1 : Int64))])) rfl rfl (hb hby own_d_prog_11_10_7)
  have pre2 : ∀ t, Steps p.tables e below (T1.setTop (mkF m 12 #[.val (.ref a1), .val (.long q1), .second, .val (.long ((q1.toUInt64 >>> ((63 : Int32) &&& 0x3f).toInt64.toUInt64).toInt64)), .second, .unset, .unset, .unset, .unset] [(.int ((16 : Int32) - (1 : Int32))), (.long (1 : Int64))])) t → Steps p.tables e below (s₁.setTop (entryFrame m #[(.ref a1), (.long q1)] 9)) t := fun t kt => by
    refine pre0 _ ?_
    show Steps p.tables e below (s₁.setTop (mkF m 0 #[.val (.ref a1), .val (.long q1), .second, .unset, .unset, .unset, .unset, .unset, .unset] [])) _
    refine XS.lloadN X0.here hx rfl (hb hby own_d_prog_11_10_0) rfl ?_
    show Steps p.tables e below (s₁.setTop (mkF m 1 #[.val (.ref a1), .val (.long q1), .second, .unset, .unset, .unset, .unset, .unset, .unset] [(.long q1)])) _
    refine XS.bipush X0.here hx rfl (hb hby own_d_prog_11_10_1) ?_
    show Steps p.tables e below (s₁.setTop (mkF m 3 #[.val (.ref a1), .val (.long q1), .second, .unset, .unset, .unset, .unset, .unset, .unset] [(.int (63 : Int32)), (.long q1)])) _
    refine XS.lushr X0.here hx rfl (hb hby own_d_prog_11_10_3) rfl ?_
    show Steps p.tables e below (s₁.setTop (mkF m 4 #[.val (.ref a1), .val (.long q1), .second, .unset, .unset, .unset, .unset, .unset, .unset] [(.long ((q1.toUInt64 >>> ((63 : Int32) &&& 0x3f).toInt64.toUInt64).toInt64))])) _
    refine XS.lstoreN X0.here hx rfl (hb hby own_d_prog_11_10_4) rfl (l' := #[.val (.ref a1), .val (.long q1), .second, .val (.long ((q1.toUInt64 >>> ((63 : Int32) &&& 0x3f).toInt64.toUInt64).toInt64)), .second, .unset, .unset, .unset, .unset]) rfl ?_
    show Steps p.tables e below (s₁.setTop (mkF m 5 #[.val (.ref a1), .val (.long q1), .second, .val (.long ((q1.toUInt64 >>> ((63 : Int32) &&& 0x3f).toInt64.toUInt64).toInt64)), .second, .unset, .unset, .unset, .unset] [])) _
    refine XS.lconst X0.here hx rfl (hb hby own_d_prog_11_10_5) ?_
    show Steps p.tables e below (s₁.setTop (mkF m 6 #[.val (.ref a1), .val (.long q1), .second, .val (.long ((q1.toUInt64 >>> ((63 : Int32) &&& 0x3f).toInt64.toUInt64).toInt64)), .second, .unset, .unset, .unset, .unset] [(.long (1 : Int64))])) _
    refine XS.aloadN X0.here hx rfl (hb hby own_d_prog_11_10_6) rfl rfl ?_
    show Steps p.tables e below (s₁.setTop (mkF m 7 #[.val (.ref a1), .val (.long q1), .second, .val (.long ((q1.toUInt64 >>> ((63 : Int32) &&& 0x3f).toInt64.toUInt64).toInt64)), .second, .unset, .unset, .unset, .unset] [(.ref a1), (.long (1 : Int64))])) _
    refine st1 _ ?_
    show Steps p.tables e below (T1.setTop (mkF m 10 #[.val (.ref a1), .val (.long q1), .second, .val (.long ((q1.toUInt64 >>> ((63 : Int32) &&& 0x3f).toInt64.toUInt64).toInt64)), .second, .unset, .unset, .unset, .unset] [(.int (16 : Int32)), (.long (1 : Int64))])) _
    refine XS.iconst X1.here hx rfl (hb hby own_d_prog_11_10_10) ?_
    show Steps p.tables e below (T1.setTop (mkF m 11 #[.val (.ref a1), .val (.long q1), .second, .val (.long ((q1.toUInt64 >>> ((63 : Int32) &&& 0x3f).toInt64.toUInt64).toInt64)), .second, .unset, .unset, .unset, .unset] [(.int (1 : Int32)), (.int (16 : Int32)), (.long (1 : Int64))])) _
    refine XS.isub X1.here hx rfl (hb hby own_d_prog_11_10_11) rfl ?_
    show Steps p.tables e below (T1.setTop (mkF m 12 #[.val (.ref a1), .val (.long q1), .second, .val (.long ((q1.toUInt64 >>> ((63 : Int32) &&& 0x3f).toInt64.toUInt64).toInt64)), .second, .unset, .unset, .unset, .unset] [(.int ((16 : Int32) - (1 : Int32))), (.long (1 : Int64))])) _
    exact kt
  rw [show ((16 : Int32) - (1 : Int32)) = (15 : Int32) from by decide +kernel] at pre2
  obtain ⟨T3, X3, e3, st3⟩ := getF X1 hx hZ hown (host := "") (Or.inl (hw _ (List.mem_of_getElem? (i := 14) rfl))) Via.refl e1 F2 (g := (mkF m 13 #[.val (.ref a1), .val (.long q1), .second, .val (.long ((q1.toUInt64 >>> ((63 : Int32) &&& 0x3f).toInt64.toUInt64).toInt64)), .second, .unset, .unset, .unset, .unset] [(.ref a1), (.int (15 : Int32)), (.long (1 : Int64))])) rfl rfl (hb hby own_d_prog_11_10_13)
  have pre4 : ∀ t, Steps p.tables e below (T3.setTop (mkF m 17 #[.val (.ref a1), .val (.long q1), .second, .val (.long ((q1.toUInt64 >>> ((63 : Int32) &&& 0x3f).toInt64.toUInt64).toInt64)), .second, .unset, .unset, .unset, .unset] [(.int ((15 : Int32) - (10 : Int32))), (.long (1 : Int64))])) t → Steps p.tables e below (s₁.setTop (entryFrame m #[(.ref a1), (.long q1)] 9)) t := fun t kt => by
    refine pre2 _ ?_
    show Steps p.tables e below (T1.setTop (mkF m 12 #[.val (.ref a1), .val (.long q1), .second, .val (.long ((q1.toUInt64 >>> ((63 : Int32) &&& 0x3f).toInt64.toUInt64).toInt64)), .second, .unset, .unset, .unset, .unset] [(.int (15 : Int32)), (.long (1 : Int64))])) _
    refine XS.aloadN X1.here hx rfl (hb hby own_d_prog_11_10_12) rfl rfl ?_
    show Steps p.tables e below (T1.setTop (mkF m 13 #[.val (.ref a1), .val (.long q1), .second, .val (.long ((q1.toUInt64 >>> ((63 : Int32) &&& 0x3f).toInt64.toUInt64).toInt64)), .second, .unset, .unset, .unset, .unset] [(.ref a1), (.int (15 : Int32)), (.long (1 : Int64))])) _
    refine st3 _ ?_
    show Steps p.tables e below (T3.setTop (mkF m 16 #[.val (.ref a1), .val (.long q1), .second, .val (.long ((q1.toUInt64 >>> ((63 : Int32) &&& 0x3f).toInt64.toUInt64).toInt64)), .second, .unset, .unset, .unset, .unset] [(.int (10 : Int32)), (.int (15 : Int32)), (.long (1 : Int64))])) _
    refine XS.isub X3.here hx rfl (hb hby own_d_prog_11_10_16) rfl ?_
    show Steps p.tables e below (T3.setTop (mkF m 17 #[.val (.ref a1), .val (.long q1), .second, .val (.long ((q1.toUInt64 >>> ((63 : Int32) &&& 0x3f).toInt64.toUInt64).toInt64)), .second, .unset, .unset, .unset, .unset] [(.int ((15 : Int32) - (10 : Int32))), (.long (1 : Int64))])) _
    exact kt
  rw [show ((15 : Int32) - (10 : Int32)) = (5 : Int32) from by decide +kernel] at pre4
  have pre5 : ∀ t, Steps p.tables e below (T3.setTop (mkF m 18 #[.val (.ref a1), .val (.long q1), .second, .val (.long ((q1.toUInt64 >>> ((63 : Int32) &&& 0x3f).toInt64.toUInt64).toInt64)), .second, .unset, .unset, .unset, .unset] [(.long ((1 : Int64) <<< ((5 : Int32) &&& 0x3f).toInt64))])) t → Steps p.tables e below (s₁.setTop (entryFrame m #[(.ref a1), (.long q1)] 9)) t := fun t kt => by
    refine pre4 _ ?_
    show Steps p.tables e below (T3.setTop (mkF m 17 #[.val (.ref a1), .val (.long q1), .second, .val (.long ((q1.toUInt64 >>> ((63 : Int32) &&& 0x3f).toInt64.toUInt64).toInt64)), .second, .unset, .unset, .unset, .unset] [(.int (5 : Int32)), (.long (1 : Int64))])) _
    refine XS.lshl X3.here hx rfl (hb hby own_d_prog_11_10_17) rfl ?_
    show Steps p.tables e below (T3.setTop (mkF m 18 #[.val (.ref a1), .val (.long q1), .second, .val (.long ((q1.toUInt64 >>> ((63 : Int32) &&& 0x3f).toInt64.toUInt64).toInt64)), .second, .unset, .unset, .unset, .unset] [(.long ((1 : Int64) <<< ((5 : Int32) &&& 0x3f).toInt64))])) _
    exact kt
  rw [show ((1 : Int64) <<< ((5 : Int32) &&& 0x3f).toInt64) = (32 : Int64) from by decide +kernel] at pre5
  have pre6 : ∀ t, Steps p.tables e below (T3.setTop (mkF m 20 #[.val (.ref a1), .val (.long q1), .second, .val (.long ((q1.toUInt64 >>> ((63 : Int32) &&& 0x3f).toInt64.toUInt64).toInt64)), .second, .unset, .unset, .unset, .unset] [(.long ((32 : Int64) - (1 : Int64)))])) t → Steps p.tables e below (s₁.setTop (entryFrame m #[(.ref a1), (.long q1)] 9)) t := fun t kt => by
    refine pre5 _ ?_
    show Steps p.tables e below (T3.setTop (mkF m 18 #[.val (.ref a1), .val (.long q1), .second, .val (.long ((q1.toUInt64 >>> ((63 : Int32) &&& 0x3f).toInt64.toUInt64).toInt64)), .second, .unset, .unset, .unset, .unset] [(.long (32 : Int64))])) _
    refine XS.lconst X3.here hx rfl (hb hby own_d_prog_11_10_18) ?_
    show Steps p.tables e below (T3.setTop (mkF m 19 #[.val (.ref a1), .val (.long q1), .second, .val (.long ((q1.toUInt64 >>> ((63 : Int32) &&& 0x3f).toInt64.toUInt64).toInt64)), .second, .unset, .unset, .unset, .unset] [(.long (1 : Int64)), (.long (32 : Int64))])) _
    refine XS.lsub X3.here hx rfl (hb hby own_d_prog_11_10_19) rfl ?_
    show Steps p.tables e below (T3.setTop (mkF m 20 #[.val (.ref a1), .val (.long q1), .second, .val (.long ((q1.toUInt64 >>> ((63 : Int32) &&& 0x3f).toInt64.toUInt64).toInt64)), .second, .unset, .unset, .unset, .unset] [(.long ((32 : Int64) - (1 : Int64)))])) _
    exact kt
  rw [show ((32 : Int64) - (1 : Int64)) = (31 : Int64) from by decide +kernel] at pre6
  obtain ⟨T7, X7, e7, st7⟩ := getF X3 hx hZ hown (host := "") (Or.inl (hw _ (List.mem_of_getElem? (i := 14) rfl))) Via.refl e3 F2 (g := (mkF m 30 #[.val (.ref a1), .val (.long q1), .second, .val (.long ((q1.toUInt64 >>> ((63 : Int32) &&& 0x3f).toInt64.toUInt64).toInt64)), .second, .val (.long (31 : Int64)), .second, .unset, .unset] [(.ref a1), (.int (52 : Int32)), (.long (q1 &&& (4503599627370495 : Int64)))])) rfl rfl (hb hby own_d_prog_11_10_30)
  have pre8 : ∀ t, Steps p.tables e below (T7.setTop (mkF m 34 #[.val (.ref a1), .val (.long q1), .second, .val (.long ((q1.toUInt64 >>> ((63 : Int32) &&& 0x3f).toInt64.toUInt64).toInt64)), .second, .val (.long (31 : Int64)), .second, .unset, .unset] [(.int ((52 : Int32) - (10 : Int32))), (.long (q1 &&& (4503599627370495 : Int64)))])) t → Steps p.tables e below (s₁.setTop (entryFrame m #[(.ref a1), (.long q1)] 9)) t := fun t kt => by
    refine pre6 _ ?_
    show Steps p.tables e below (T3.setTop (mkF m 20 #[.val (.ref a1), .val (.long q1), .second, .val (.long ((q1.toUInt64 >>> ((63 : Int32) &&& 0x3f).toInt64.toUInt64).toInt64)), .second, .unset, .unset, .unset, .unset] [(.long (31 : Int64))])) _
    refine XS.lstore X3.here hx rfl (hb hby own_d_prog_11_10_20) rfl (l' := #[.val (.ref a1), .val (.long q1), .second, .val (.long ((q1.toUInt64 >>> ((63 : Int32) &&& 0x3f).toInt64.toUInt64).toInt64)), .second, .val (.long (31 : Int64)), .second, .unset, .unset]) rfl ?_
    show Steps p.tables e below (T3.setTop (mkF m 22 #[.val (.ref a1), .val (.long q1), .second, .val (.long ((q1.toUInt64 >>> ((63 : Int32) &&& 0x3f).toInt64.toUInt64).toInt64)), .second, .val (.long (31 : Int64)), .second, .unset, .unset] [])) _
    refine XS.lloadN X3.here hx rfl (hb hby own_d_prog_11_10_22) rfl ?_
    show Steps p.tables e below (T3.setTop (mkF m 23 #[.val (.ref a1), .val (.long q1), .second, .val (.long ((q1.toUInt64 >>> ((63 : Int32) &&& 0x3f).toInt64.toUInt64).toInt64)), .second, .val (.long (31 : Int64)), .second, .unset, .unset] [(.long q1)])) _
    refine X3.ldc2Long hx hown (mvT hZ (hw _ (List.mem_of_getElem? (i := 16) rfl))) (g := (mkF m 23 #[.val (.ref a1), .val (.long q1), .second, .val (.long ((q1.toUInt64 >>> ((63 : Int32) &&& 0x3f).toInt64.toUInt64).toInt64)), .second, .val (.long (31 : Int64)), .second, .unset, .unset] [(.long q1)])) rfl (hb hby own_d_prog_11_10_23) _ ?_
    show Steps p.tables e below (T3.setTop (mkF m 26 #[.val (.ref a1), .val (.long q1), .second, .val (.long ((q1.toUInt64 >>> ((63 : Int32) &&& 0x3f).toInt64.toUInt64).toInt64)), .second, .val (.long (31 : Int64)), .second, .unset, .unset] [(.long (4503599627370495 : Int64)), (.long q1)])) _
    refine XS.land X3.here hx rfl (hb hby own_d_prog_11_10_26) rfl ?_
    show Steps p.tables e below (T3.setTop (mkF m 27 #[.val (.ref a1), .val (.long q1), .second, .val (.long ((q1.toUInt64 >>> ((63 : Int32) &&& 0x3f).toInt64.toUInt64).toInt64)), .second, .val (.long (31 : Int64)), .second, .unset, .unset] [(.long (q1 &&& (4503599627370495 : Int64)))])) _
    refine XS.bipush X3.here hx rfl (hb hby own_d_prog_11_10_27) ?_
    show Steps p.tables e below (T3.setTop (mkF m 29 #[.val (.ref a1), .val (.long q1), .second, .val (.long ((q1.toUInt64 >>> ((63 : Int32) &&& 0x3f).toInt64.toUInt64).toInt64)), .second, .val (.long (31 : Int64)), .second, .unset, .unset] [(.int (52 : Int32)), (.long (q1 &&& (4503599627370495 : Int64)))])) _
    refine XS.aloadN X3.here hx rfl (hb hby own_d_prog_11_10_29) rfl rfl ?_
    show Steps p.tables e below (T3.setTop (mkF m 30 #[.val (.ref a1), .val (.long q1), .second, .val (.long ((q1.toUInt64 >>> ((63 : Int32) &&& 0x3f).toInt64.toUInt64).toInt64)), .second, .val (.long (31 : Int64)), .second, .unset, .unset] [(.ref a1), (.int (52 : Int32)), (.long (q1 &&& (4503599627370495 : Int64)))])) _
    refine st7 _ ?_
    show Steps p.tables e below (T7.setTop (mkF m 33 #[.val (.ref a1), .val (.long q1), .second, .val (.long ((q1.toUInt64 >>> ((63 : Int32) &&& 0x3f).toInt64.toUInt64).toInt64)), .second, .val (.long (31 : Int64)), .second, .unset, .unset] [(.int (10 : Int32)), (.int (52 : Int32)), (.long (q1 &&& (4503599627370495 : Int64)))])) _
    refine XS.isub X7.here hx rfl (hb hby own_d_prog_11_10_33) rfl ?_
    show Steps p.tables e below (T7.setTop (mkF m 34 #[.val (.ref a1), .val (.long q1), .second, .val (.long ((q1.toUInt64 >>> ((63 : Int32) &&& 0x3f).toInt64.toUInt64).toInt64)), .second, .val (.long (31 : Int64)), .second, .unset, .unset] [(.int ((52 : Int32) - (10 : Int32))), (.long (q1 &&& (4503599627370495 : Int64)))])) _
    exact kt
  rw [show ((52 : Int32) - (10 : Int32)) = (42 : Int32) from by decide +kernel] at pre8
  obtain ⟨T9, X9, e9, st9⟩ := getF X7 hx hZ hown (host := "") (Or.inl (hw _ (List.mem_of_getElem? (i := 12) rfl))) Via.refl e7 F1 (g := (mkF m 39 #[.val (.ref a1), .val (.long q1), .second, .val (.long ((q1.toUInt64 >>> ((63 : Int32) &&& 0x3f).toInt64.toUInt64).toInt64)), .second, .val (.long (31 : Int64)), .second, .val (.long (((q1 &&& (4503599627370495 : Int64)).toUInt64 >>> ((42 : Int32) &&& 0x3f).toInt64.toUInt64).toInt64)), .second] [(.ref a1), (.long ((q1.toUInt64 >>> ((63 : Int32) &&& 0x3f).toInt64.toUInt64).toInt64))])) rfl rfl (hb hby own_d_prog_11_10_39)
  have pre10 : ∀ t, Steps p.tables e below (T9.setTop (mkF m 44 #[.val (.ref a1), .val (.long q1), .second, .val (.long ((q1.toUInt64 >>> ((63 : Int32) &&& 0x3f).toInt64.toUInt64).toInt64)), .second, .val (.long (31 : Int64)), .second, .val (.long (((q1 &&& (4503599627370495 : Int64)).toUInt64 >>> ((42 : Int32) &&& 0x3f).toInt64.toUInt64).toInt64)), .second] [(.int ((16 : Int32) - (1 : Int32))), (.long ((q1.toUInt64 >>> ((63 : Int32) &&& 0x3f).toInt64.toUInt64).toInt64))])) t → Steps p.tables e below (s₁.setTop (entryFrame m #[(.ref a1), (.long q1)] 9)) t := fun t kt => by
    refine pre8 _ ?_
    show Steps p.tables e below (T7.setTop (mkF m 34 #[.val (.ref a1), .val (.long q1), .second, .val (.long ((q1.toUInt64 >>> ((63 : Int32) &&& 0x3f).toInt64.toUInt64).toInt64)), .second, .val (.long (31 : Int64)), .second, .unset, .unset] [(.int (42 : Int32)), (.long (q1 &&& (4503599627370495 : Int64)))])) _
    refine XS.lushr X7.here hx rfl (hb hby own_d_prog_11_10_34) rfl ?_
    show Steps p.tables e below (T7.setTop (mkF m 35 #[.val (.ref a1), .val (.long q1), .second, .val (.long ((q1.toUInt64 >>> ((63 : Int32) &&& 0x3f).toInt64.toUInt64).toInt64)), .second, .val (.long (31 : Int64)), .second, .unset, .unset] [(.long (((q1 &&& (4503599627370495 : Int64)).toUInt64 >>> ((42 : Int32) &&& 0x3f).toInt64.toUInt64).toInt64))])) _
    refine XS.lstore X7.here hx rfl (hb hby own_d_prog_11_10_35) rfl (l' := #[.val (.ref a1), .val (.long q1), .second, .val (.long ((q1.toUInt64 >>> ((63 : Int32) &&& 0x3f).toInt64.toUInt64).toInt64)), .second, .val (.long (31 : Int64)), .second, .val (.long (((q1 &&& (4503599627370495 : Int64)).toUInt64 >>> ((42 : Int32) &&& 0x3f).toInt64.toUInt64).toInt64)), .second]) rfl ?_
    show Steps p.tables e below (T7.setTop (mkF m 37 #[.val (.ref a1), .val (.long q1), .second, .val (.long ((q1.toUInt64 >>> ((63 : Int32) &&& 0x3f).toInt64.toUInt64).toInt64)), .second, .val (.long (31 : Int64)), .second, .val (.long (((q1 &&& (4503599627370495 : Int64)).toUInt64 >>> ((42 : Int32) &&& 0x3f).toInt64.toUInt64).toInt64)), .second] [])) _
    refine XS.lloadN X7.here hx rfl (hb hby own_d_prog_11_10_37) rfl ?_
    show Steps p.tables e below (T7.setTop (mkF m 38 #[.val (.ref a1), .val (.long q1), .second, .val (.long ((q1.toUInt64 >>> ((63 : Int32) &&& 0x3f).toInt64.toUInt64).toInt64)), .second, .val (.long (31 : Int64)), .second, .val (.long (((q1 &&& (4503599627370495 : Int64)).toUInt64 >>> ((42 : Int32) &&& 0x3f).toInt64.toUInt64).toInt64)), .second] [(.long ((q1.toUInt64 >>> ((63 : Int32) &&& 0x3f).toInt64.toUInt64).toInt64))])) _
    refine XS.aloadN X7.here hx rfl (hb hby own_d_prog_11_10_38) rfl rfl ?_
    show Steps p.tables e below (T7.setTop (mkF m 39 #[.val (.ref a1), .val (.long q1), .second, .val (.long ((q1.toUInt64 >>> ((63 : Int32) &&& 0x3f).toInt64.toUInt64).toInt64)), .second, .val (.long (31 : Int64)), .second, .val (.long (((q1 &&& (4503599627370495 : Int64)).toUInt64 >>> ((42 : Int32) &&& 0x3f).toInt64.toUInt64).toInt64)), .second] [(.ref a1), (.long ((q1.toUInt64 >>> ((63 : Int32) &&& 0x3f).toInt64.toUInt64).toInt64))])) _
    refine st9 _ ?_
    show Steps p.tables e below (T9.setTop (mkF m 42 #[.val (.ref a1), .val (.long q1), .second, .val (.long ((q1.toUInt64 >>> ((63 : Int32) &&& 0x3f).toInt64.toUInt64).toInt64)), .second, .val (.long (31 : Int64)), .second, .val (.long (((q1 &&& (4503599627370495 : Int64)).toUInt64 >>> ((42 : Int32) &&& 0x3f).toInt64.toUInt64).toInt64)), .second] [(.int (16 : Int32)), (.long ((q1.toUInt64 >>> ((63 : Int32) &&& 0x3f).toInt64.toUInt64).toInt64))])) _
    refine XS.iconst X9.here hx rfl (hb hby own_d_prog_11_10_42) ?_
    show Steps p.tables e below (T9.setTop (mkF m 43 #[.val (.ref a1), .val (.long q1), .second, .val (.long ((q1.toUInt64 >>> ((63 : Int32) &&& 0x3f).toInt64.toUInt64).toInt64)), .second, .val (.long (31 : Int64)), .second, .val (.long (((q1 &&& (4503599627370495 : Int64)).toUInt64 >>> ((42 : Int32) &&& 0x3f).toInt64.toUInt64).toInt64)), .second] [(.int (1 : Int32)), (.int (16 : Int32)), (.long ((q1.toUInt64 >>> ((63 : Int32) &&& 0x3f).toInt64.toUInt64).toInt64))])) _
    refine XS.isub X9.here hx rfl (hb hby own_d_prog_11_10_43) rfl ?_
    show Steps p.tables e below (T9.setTop (mkF m 44 #[.val (.ref a1), .val (.long q1), .second, .val (.long ((q1.toUInt64 >>> ((63 : Int32) &&& 0x3f).toInt64.toUInt64).toInt64)), .second, .val (.long (31 : Int64)), .second, .val (.long (((q1 &&& (4503599627370495 : Int64)).toUInt64 >>> ((42 : Int32) &&& 0x3f).toInt64.toUInt64).toInt64)), .second] [(.int ((16 : Int32) - (1 : Int32))), (.long ((q1.toUInt64 >>> ((63 : Int32) &&& 0x3f).toInt64.toUInt64).toInt64))])) _
    exact kt
  rw [show ((16 : Int32) - (1 : Int32)) = (15 : Int32) from by decide +kernel] at pre10
  obtain ⟨T11, X11, e11, st11⟩ := getF X9 hx hZ hown (host := "") (Or.inl (hw _ (List.mem_of_getElem? (i := 14) rfl))) Via.refl e9 F2 (g := (mkF m 48 #[.val (.ref a1), .val (.long q1), .second, .val (.long ((q1.toUInt64 >>> ((63 : Int32) &&& 0x3f).toInt64.toUInt64).toInt64)), .second, .val (.long (31 : Int64)), .second, .val (.long (((q1 &&& (4503599627370495 : Int64)).toUInt64 >>> ((42 : Int32) &&& 0x3f).toInt64.toUInt64).toInt64)), .second] [(.ref a1), (.long (31 : Int64)), (.long (((q1.toUInt64 >>> ((63 : Int32) &&& 0x3f).toInt64.toUInt64).toInt64) <<< ((15 : Int32) &&& 0x3f).toInt64))])) rfl rfl (hb hby own_d_prog_11_10_48)
  have pre12 : ∀ t, Steps p.tables e below (T11.setTop (mkF m 52 #[.val (.ref a1), .val (.long q1), .second, .val (.long ((q1.toUInt64 >>> ((63 : Int32) &&& 0x3f).toInt64.toUInt64).toInt64)), .second, .val (.long (31 : Int64)), .second, .val (.long (((q1 &&& (4503599627370495 : Int64)).toUInt64 >>> ((42 : Int32) &&& 0x3f).toInt64.toUInt64).toInt64)), .second] [(.long ((31 : Int64) <<< ((10 : Int32) &&& 0x3f).toInt64)), (.long (((q1.toUInt64 >>> ((63 : Int32) &&& 0x3f).toInt64.toUInt64).toInt64) <<< ((15 : Int32) &&& 0x3f).toInt64))])) t → Steps p.tables e below (s₁.setTop (entryFrame m #[(.ref a1), (.long q1)] 9)) t := fun t kt => by
    refine pre10 _ ?_
    show Steps p.tables e below (T9.setTop (mkF m 44 #[.val (.ref a1), .val (.long q1), .second, .val (.long ((q1.toUInt64 >>> ((63 : Int32) &&& 0x3f).toInt64.toUInt64).toInt64)), .second, .val (.long (31 : Int64)), .second, .val (.long (((q1 &&& (4503599627370495 : Int64)).toUInt64 >>> ((42 : Int32) &&& 0x3f).toInt64.toUInt64).toInt64)), .second] [(.int (15 : Int32)), (.long ((q1.toUInt64 >>> ((63 : Int32) &&& 0x3f).toInt64.toUInt64).toInt64))])) _
    refine XS.lshl X9.here hx rfl (hb hby own_d_prog_11_10_44) rfl ?_
    show Steps p.tables e below (T9.setTop (mkF m 45 #[.val (.ref a1), .val (.long q1), .second, .val (.long ((q1.toUInt64 >>> ((63 : Int32) &&& 0x3f).toInt64.toUInt64).toInt64)), .second, .val (.long (31 : Int64)), .second, .val (.long (((q1 &&& (4503599627370495 : Int64)).toUInt64 >>> ((42 : Int32) &&& 0x3f).toInt64.toUInt64).toInt64)), .second] [(.long (((q1.toUInt64 >>> ((63 : Int32) &&& 0x3f).toInt64.toUInt64).toInt64) <<< ((15 : Int32) &&& 0x3f).toInt64))])) _
    refine XS.lload X9.here hx rfl (hb hby own_d_prog_11_10_45) rfl ?_
    show Steps p.tables e below (T9.setTop (mkF m 47 #[.val (.ref a1), .val (.long q1), .second, .val (.long ((q1.toUInt64 >>> ((63 : Int32) &&& 0x3f).toInt64.toUInt64).toInt64)), .second, .val (.long (31 : Int64)), .second, .val (.long (((q1 &&& (4503599627370495 : Int64)).toUInt64 >>> ((42 : Int32) &&& 0x3f).toInt64.toUInt64).toInt64)), .second] [(.long (31 : Int64)), (.long (((q1.toUInt64 >>> ((63 : Int32) &&& 0x3f).toInt64.toUInt64).toInt64) <<< ((15 : Int32) &&& 0x3f).toInt64))])) _
    refine XS.aloadN X9.here hx rfl (hb hby own_d_prog_11_10_47) rfl rfl ?_
    show Steps p.tables e below (T9.setTop (mkF m 48 #[.val (.ref a1), .val (.long q1), .second, .val (.long ((q1.toUInt64 >>> ((63 : Int32) &&& 0x3f).toInt64.toUInt64).toInt64)), .second, .val (.long (31 : Int64)), .second, .val (.long (((q1 &&& (4503599627370495 : Int64)).toUInt64 >>> ((42 : Int32) &&& 0x3f).toInt64.toUInt64).toInt64)), .second] [(.ref a1), (.long (31 : Int64)), (.long (((q1.toUInt64 >>> ((63 : Int32) &&& 0x3f).toInt64.toUInt64).toInt64) <<< ((15 : Int32) &&& 0x3f).toInt64))])) _
    refine st11 _ ?_
    show Steps p.tables e below (T11.setTop (mkF m 51 #[.val (.ref a1), .val (.long q1), .second, .val (.long ((q1.toUInt64 >>> ((63 : Int32) &&& 0x3f).toInt64.toUInt64).toInt64)), .second, .val (.long (31 : Int64)), .second, .val (.long (((q1 &&& (4503599627370495 : Int64)).toUInt64 >>> ((42 : Int32) &&& 0x3f).toInt64.toUInt64).toInt64)), .second] [(.int (10 : Int32)), (.long (31 : Int64)), (.long (((q1.toUInt64 >>> ((63 : Int32) &&& 0x3f).toInt64.toUInt64).toInt64) <<< ((15 : Int32) &&& 0x3f).toInt64))])) _
    refine XS.lshl X11.here hx rfl (hb hby own_d_prog_11_10_51) rfl ?_
    show Steps p.tables e below (T11.setTop (mkF m 52 #[.val (.ref a1), .val (.long q1), .second, .val (.long ((q1.toUInt64 >>> ((63 : Int32) &&& 0x3f).toInt64.toUInt64).toInt64)), .second, .val (.long (31 : Int64)), .second, .val (.long (((q1 &&& (4503599627370495 : Int64)).toUInt64 >>> ((42 : Int32) &&& 0x3f).toInt64.toUInt64).toInt64)), .second] [(.long ((31 : Int64) <<< ((10 : Int32) &&& 0x3f).toInt64)), (.long (((q1.toUInt64 >>> ((63 : Int32) &&& 0x3f).toInt64.toUInt64).toInt64) <<< ((15 : Int32) &&& 0x3f).toInt64))])) _
    exact kt
  rw [show ((31 : Int64) <<< ((10 : Int32) &&& 0x3f).toInt64) = (31744 : Int64) from by decide +kernel] at pre12
  obtain ⟨fs, hr, hrun, hended, hW, hsame⟩ := X11.leave (v := some (.long (((((q1.toUInt64 >>> ((63 : Int32) &&& 0x3f).toInt64.toUInt64).toInt64) <<< ((15 : Int32) &&& 0x3f).toInt64) ||| (31744 : Int64)) ||| (((q1 &&& (4503599627370495 : Int64)).toUInt64 >>> ((42 : Int32) &&& 0x3f).toInt64.toUInt64).toInt64)))) (fun h => by rw [Bd.returns] at h; cases h)
  refine ⟨_, _, pre12 _ ?_, hrun, hended, _, _, rfl, ?_, ⟨_, rfl⟩, hW, hsame.mono (by decide) (by decide)⟩
  ·
    show Steps p.tables e below (T11.setTop (mkF m 52 #[.val (.ref a1), .val (.long q1), .second, .val (.long ((q1.toUInt64 >>> ((63 : Int32) &&& 0x3f).toInt64.toUInt64).toInt64)), .second, .val (.long (31 : Int64)), .second, .val (.long (((q1 &&& (4503599627370495 : Int64)).toUInt64 >>> ((42 : Int32) &&& 0x3f).toInt64.toUInt64).toInt64)), .second] [(.long (31744 : Int64)), (.long (((q1.toUInt64 >>> ((63 : Int32) &&& 0x3f).toInt64.toUInt64).toInt64) <<< ((15 : Int32) &&& 0x3f).toInt64))])) _
    refine XS.lor X11.here hx rfl (hb hby own_d_prog_11_10_52) rfl ?_
    show Steps p.tables e below (T11.setTop (mkF m 53 #[.val (.ref a1), .val (.long q1), .second, .val (.long ((q1.toUInt64 >>> ((63 : Int32) &&& 0x3f).toInt64.toUInt64).toInt64)), .second, .val (.long (31 : Int64)), .second, .val (.long (((q1 &&& (4503599627370495 : Int64)).toUInt64 >>> ((42 : Int32) &&& 0x3f).toInt64.toUInt64).toInt64)), .second] [(.long ((((q1.toUInt64 >>> ((63 : Int32) &&& 0x3f).toInt64.toUInt64).toInt64) <<< ((15 : Int32) &&& 0x3f).toInt64) ||| (31744 : Int64)))])) _
    refine XS.lload X11.here hx rfl (hb hby own_d_prog_11_10_53) rfl ?_
    show Steps p.tables e below (T11.setTop (mkF m 55 #[.val (.ref a1), .val (.long q1), .second, .val (.long ((q1.toUInt64 >>> ((63 : Int32) &&& 0x3f).toInt64.toUInt64).toInt64)), .second, .val (.long (31 : Int64)), .second, .val (.long (((q1 &&& (4503599627370495 : Int64)).toUInt64 >>> ((42 : Int32) &&& 0x3f).toInt64.toUInt64).toInt64)), .second] [(.long (((q1 &&& (4503599627370495 : Int64)).toUInt64 >>> ((42 : Int32) &&& 0x3f).toInt64.toUInt64).toInt64)), (.long ((((q1.toUInt64 >>> ((63 : Int32) &&& 0x3f).toInt64.toUInt64).toInt64) <<< ((15 : Int32) &&& 0x3f).toInt64) ||| (31744 : Int64)))])) _
    refine XS.lor X11.here hx rfl (hb hby own_d_prog_11_10_55) rfl ?_
    show Steps p.tables e below (T11.setTop (mkF m 56 #[.val (.ref a1), .val (.long q1), .second, .val (.long ((q1.toUInt64 >>> ((63 : Int32) &&& 0x3f).toInt64.toUInt64).toInt64)), .second, .val (.long (31 : Int64)), .second, .val (.long (((q1 &&& (4503599627370495 : Int64)).toUInt64 >>> ((42 : Int32) &&& 0x3f).toInt64.toUInt64).toInt64)), .second] [(.long (((((q1.toUInt64 >>> ((63 : Int32) &&& 0x3f).toInt64.toUInt64).toInt64) <<< ((15 : Int32) &&& 0x3f).toInt64) ||| (31744 : Int64)) ||| (((q1 &&& (4503599627370495 : Int64)).toUInt64 >>> ((42 : Int32) &&& 0x3f).toInt64.toUInt64).toInt64)))])) _
    exact retOut X11 hx (t := .long) Bd.returns rfl (Or.inr (Or.inl ⟨rfl, rfl, _, rfl⟩)) (hb hby own_d_prog_11_10_56) hr
  ·
    show Q_rmF0 Z a1 q1 h0 n0 (_) T11.heap (_)
    rw [e11]
    exact ⟨rfl, N0, rfl⟩
theorem ef_rmF1 (m : MethodId) (a1 : Addr) (q1 : Int64) : entryFrame m #[(.ref a1), (.long q1)] 9 = mkF m 0 #[.val (.ref a1), .val (.long q1), .second, .unset, .unset, .unset, .unset, .unset, .unset] [] := by first | (simp [entryFrame, mkF, argsToLocals, Value.category]; done) | rfl
def Q_rmF1 (Z : State) (a1 : Addr) (q1 : Int64) (h0 : Heap) (n0 : Nat) (v : Option Value) (h : Heap) (L : List Loc) : Prop := v = some (.long (((((q1.toUInt64 >>> ((63 : Int32) &&& 0x3f).toInt64.toUInt64).toInt64) <<< ((31 : Int32) &&& 0x3f).toInt64) ||| (2139095040 : Int64)) ||| (((q1 &&& (4503599627370495 : Int64)).toUInt64 >>> ((29 : Int32) &&& 0x3f).toInt64.toUInt64).toInt64))) ∧ Fr n0 L ∧ h = h0
set_option maxRecDepth 65536 in
set_option maxHeartbeats 40000000 in
theorem rmF1 (l : Launch) (Z : State) (a0 : Array Value) (hw : ∀ d ∈ tables_1, d.before a0 Z = true) (ws : List Jvm.Cond) (a1 : Addr) (q1 : Int64) (h0 : Heap) (n0 : Nat) (Z0 : n0 ≤ h0.size) (F1 : Fld Z h0 a1 "com/example/chronotag/chronotag/codec/FloatFormat" "width" "I" (.int (32 : Int32))) (F2 : Fld Z h0 a1 "com/example/chronotag/chronotag/codec/FloatFormat" "fractionWidth" "I" (.int (23 : Int32))) :
    MetFree l (⟨"com/example/chronotag/chronotag/codec/FloatFormat", "narrowNaN", "(J)J"⟩ : MethodName) (head1 (Jvm.Cond.code (⟨"com/example/chronotag/chronotag/codec/FloatFormat", "narrowNaN", "(J)J"⟩ : MethodName) prog_11_method_10_code 9 (some .long) :: ws) ({ frames := 0, cells := 0, slots := 0, locals := 0 } : Room)) (fun a U => a = #[(.ref a1), (.long q1)] ∧ Z.Warmed39 U.vm ∧ U.heap = h0) (fun _ _ _ _ _ => True) (fun _ U o U' => ∃ v L, o = .returned v ∧ Q_rmF1 Z a1 q1 h0 n0 (v) U'.heap (L) ∧ FrameEnd U o U' L 0 0) := by
  refine MetFree.of_bodySF (plainFor_of_name own_pn0) hisR ?_
  intro p e s m args below meth c s₁ Bd hml0 hP hK
  obtain ⟨rfl, hZ, hh⟩ := hP
  have hx := Bd.exec
  have hby := Bd.bytes
  have hml : c.maxLocals = 9 := hml0
  have hown : s.vm.findClass "com/example/chronotag/chronotag/codec/FloatFormat" = some m.cls := findClass_of_methodNamed Bd.named
  have hnm := (name_of_methodNamed Bd.named Bd.method).1
  have X0 : Stand p l e ({ frames := 0, cells := 0, slots := 0, locals := 0 } : Room) s m #[(.ref a1), (.long q1)] below meth c s₁ [] 0 0 := Stand.of_body Bd
  have e0 : s₁.heap = h0 := by rw [← hh, Bd.state]; rfl
  have N0 := Fr.nil n0
  have pre0 : ∀ t, Steps p.tables e below (s₁.setTop (mkF m 0 #[.val (.ref a1), .val (.long q1), .second, .unset, .unset, .unset, .unset, .unset, .unset] [])) t → Steps p.tables e below (s₁.setTop (entryFrame m #[(.ref a1), (.long q1)] 9)) t := fun t k => castTop (ef_rmF1 m a1 q1) k
  obtain ⟨T1, X1, e1, st1⟩ := getF X0 hx hZ hown (host := "") (Or.inl (hw _ (List.mem_of_getElem? (i := 12) rfl))) Via.refl e0 F1 (g := (mkF m 7 #[.val (.ref a1), .val (.long q1), .second, .val (.long ((q1.toUInt64 >>> ((63 : Int32) &&& 0x3f).toInt64.toUInt64).toInt64)), .second, .unset, .unset, .unset, .unset] [(.ref a1), (.long (1 : Int64))])) rfl rfl (hb hby own_d_prog_11_10_7)
  have pre2 : ∀ t, Steps p.tables e below (T1.setTop (mkF m 12 #[.val (.ref a1), .val (.long q1), .second, .val (.long ((q1.toUInt64 >>> ((63 : Int32) &&& 0x3f).toInt64.toUInt64).toInt64)), .second, .unset, .unset, .unset, .unset] [(.int ((32 : Int32) - (1 : Int32))), (.long (1 : Int64))])) t → Steps p.tables e below (s₁.setTop (entryFrame m #[(.ref a1), (.long q1)] 9)) t := fun t kt => by
    refine pre0 _ ?_
    show Steps p.tables e below (s₁.setTop (mkF m 0 #[.val (.ref a1), .val (.long q1), .second, .unset, .unset, .unset, .unset, .unset, .unset] [])) _
    refine XS.lloadN X0.here hx rfl (hb hby own_d_prog_11_10_0) rfl ?_
    show Steps p.tables e below (s₁.setTop (mkF m 1 #[.val (.ref a1), .val (.long q1), .second, .unset, .unset, .unset, .unset, .unset, .unset] [(.long q1)])) _
    refine XS.bipush X0.here hx rfl (hb hby own_d_prog_11_10_1) ?_
    show Steps p.tables e below (s₁.setTop (mkF m 3 #[.val (.ref a1), .val (.long q1), .second, .unset, .unset, .unset, .unset, .unset, .unset] [(.int (63 : Int32)), (.long q1)])) _
    refine XS.lushr X0.here hx rfl (hb hby own_d_prog_11_10_3) rfl ?_
    show Steps p.tables e below (s₁.setTop (mkF m 4 #[.val (.ref a1), .val (.long q1), .second, .unset, .unset, .unset, .unset, .unset, .unset] [(.long ((q1.toUInt64 >>> ((63 : Int32) &&& 0x3f).toInt64.toUInt64).toInt64))])) _
    refine XS.lstoreN X0.here hx rfl (hb hby own_d_prog_11_10_4) rfl (l' := #[.val (.ref a1), .val (.long q1), .second, .val (.long ((q1.toUInt64 >>> ((63 : Int32) &&& 0x3f).toInt64.toUInt64).toInt64)), .second, .unset, .unset, .unset, .unset]) rfl ?_
    show Steps p.tables e below (s₁.setTop (mkF m 5 #[.val (.ref a1), .val (.long q1), .second, .val (.long ((q1.toUInt64 >>> ((63 : Int32) &&& 0x3f).toInt64.toUInt64).toInt64)), .second, .unset, .unset, .unset, .unset] [])) _
    refine XS.lconst X0.here hx rfl (hb hby own_d_prog_11_10_5) ?_
    show Steps p.tables e below (s₁.setTop (mkF m 6 #[.val (.ref a1), .val (.long q1), .second, .val (.long ((q1.toUInt64 >>> ((63 : Int32) &&& 0x3f).toInt64.toUInt64).toInt64)), .second, .unset, .unset, .unset, .unset] [(.long (1 : Int64))])) _
    refine XS.aloadN X0.here hx rfl (hb hby own_d_prog_11_10_6) rfl rfl ?_
    show Steps p.tables e below (s₁.setTop (mkF m 7 #[.val (.ref a1), .val (.long q1), .second, .val (.long ((q1.toUInt64 >>> ((63 : Int32) &&& 0x3f).toInt64.toUInt64).toInt64)), .second, .unset, .unset, .unset, .unset] [(.ref a1), (.long (1 : Int64))])) _
    refine st1 _ ?_
    show Steps p.tables e below (T1.setTop (mkF m 10 #[.val (.ref a1), .val (.long q1), .second, .val (.long ((q1.toUInt64 >>> ((63 : Int32) &&& 0x3f).toInt64.toUInt64).toInt64)), .second, .unset, .unset, .unset, .unset] [(.int (32 : Int32)), (.long (1 : Int64))])) _
    refine XS.iconst X1.here hx rfl (hb hby own_d_prog_11_10_10) ?_
    show Steps p.tables e below (T1.setTop (mkF m 11 #[.val (.ref a1), .val (.long q1), .second, .val (.long ((q1.toUInt64 >>> ((63 : Int32) &&& 0x3f).toInt64.toUInt64).toInt64)), .second, .unset, .unset, .unset, .unset] [(.int (1 : Int32)), (.int (32 : Int32)), (.long (1 : Int64))])) _
    refine XS.isub X1.here hx rfl (hb hby own_d_prog_11_10_11) rfl ?_
    show Steps p.tables e below (T1.setTop (mkF m 12 #[.val (.ref a1), .val (.long q1), .second, .val (.long ((q1.toUInt64 >>> ((63 : Int32) &&& 0x3f).toInt64.toUInt64).toInt64)), .second, .unset, .unset, .unset, .unset] [(.int ((32 : Int32) - (1 : Int32))), (.long (1 : Int64))])) _
    exact kt
  rw [show ((32 : Int32) - (1 : Int32)) = (31 : Int32) from by decide +kernel] at pre2
  obtain ⟨T3, X3, e3, st3⟩ := getF X1 hx hZ hown (host := "") (Or.inl (hw _ (List.mem_of_getElem? (i := 14) rfl))) Via.refl e1 F2 (g := (mkF m 13 #[.val (.ref a1), .val (.long q1), .second, .val (.long ((q1.toUInt64 >>> ((63 : Int32) &&& 0x3f).toInt64.toUInt64).toInt64)), .second, .unset, .unset, .unset, .unset] [(.ref a1), (.int (31 : Int32)), (.long (1 : Int64))])) rfl rfl (hb hby own_d_prog_11_10_13)
  have pre4 : ∀ t, Steps p.tables e below (T3.setTop (mkF m 17 #[.val (.ref a1), .val (.long q1), .second, .val (.long ((q1.toUInt64 >>> ((63 : Int32) &&& 0x3f).toInt64.toUInt64).toInt64)), .second, .unset, .unset, .unset, .unset] [(.int ((31 : Int32) - (23 : Int32))), (.long (1 : Int64))])) t → Steps p.tables e below (s₁.setTop (entryFrame m #[(.ref a1), (.long q1)] 9)) t := fun t kt => by
    refine pre2 _ ?_
    show Steps p.tables e below (T1.setTop (mkF m 12 #[.val (.ref a1), .val (.long q1), .second, .val (.long ((q1.toUInt64 >>> ((63 : Int32) &&& 0x3f).toInt64.toUInt64).toInt64)), .second, .unset, .unset, .unset, .unset] [(.int (31 : Int32)), (.long (1 : Int64))])) _
    refine XS.aloadN X1.here hx rfl (hb hby own_d_prog_11_10_12) rfl rfl ?_
    show Steps p.tables e below (T1.setTop (mkF m 13 #[.val (.ref a1), .val (.long q1), .second, .val (.long ((q1.toUInt64 >>> ((63 : Int32) &&& 0x3f).toInt64.toUInt64).toInt64)), .second, .unset, .unset, .unset, .unset] [(.ref a1), (.int (31 : Int32)), (.long (1 : Int64))])) _
    refine st3 _ ?_
    show Steps p.tables e below (T3.setTop (mkF m 16 #[.val (.ref a1), .val (.long q1), .second, .val (.long ((q1.toUInt64 >>> ((63 : Int32) &&& 0x3f).toInt64.toUInt64).toInt64)), .second, .unset, .unset, .unset, .unset] [(.int (23 : Int32)), (.int (31 : Int32)), (.long (1 : Int64))])) _
    refine XS.isub X3.here hx rfl (hb hby own_d_prog_11_10_16) rfl ?_
    show Steps p.tables e below (T3.setTop (mkF m 17 #[.val (.ref a1), .val (.long q1), .second, .val (.long ((q1.toUInt64 >>> ((63 : Int32) &&& 0x3f).toInt64.toUInt64).toInt64)), .second, .unset, .unset, .unset, .unset] [(.int ((31 : Int32) - (23 : Int32))), (.long (1 : Int64))])) _
    exact kt
  rw [show ((31 : Int32) - (23 : Int32)) = (8 : Int32) from by decide +kernel] at pre4
  have pre5 : ∀ t, Steps p.tables e below (T3.setTop (mkF m 18 #[.val (.ref a1), .val (.long q1), .second, .val (.long ((q1.toUInt64 >>> ((63 : Int32) &&& 0x3f).toInt64.toUInt64).toInt64)), .second, .unset, .unset, .unset, .unset] [(.long ((1 : Int64) <<< ((8 : Int32) &&& 0x3f).toInt64))])) t → Steps p.tables e below (s₁.setTop (entryFrame m #[(.ref a1), (.long q1)] 9)) t := fun t kt => by
    refine pre4 _ ?_
    show Steps p.tables e below (T3.setTop (mkF m 17 #[.val (.ref a1), .val (.long q1), .second, .val (.long ((q1.toUInt64 >>> ((63 : Int32) &&& 0x3f).toInt64.toUInt64).toInt64)), .second, .unset, .unset, .unset, .unset] [(.int (8 : Int32)), (.long (1 : Int64))])) _
    refine XS.lshl X3.here hx rfl (hb hby own_d_prog_11_10_17) rfl ?_
    show Steps p.tables e below (T3.setTop (mkF m 18 #[.val (.ref a1), .val (.long q1), .second, .val (.long ((q1.toUInt64 >>> ((63 : Int32) &&& 0x3f).toInt64.toUInt64).toInt64)), .second, .unset, .unset, .unset, .unset] [(.long ((1 : Int64) <<< ((8 : Int32) &&& 0x3f).toInt64))])) _
    exact kt
  rw [show ((1 : Int64) <<< ((8 : Int32) &&& 0x3f).toInt64) = (256 : Int64) from by decide +kernel] at pre5
  have pre6 : ∀ t, Steps p.tables e below (T3.setTop (mkF m 20 #[.val (.ref a1), .val (.long q1), .second, .val (.long ((q1.toUInt64 >>> ((63 : Int32) &&& 0x3f).toInt64.toUInt64).toInt64)), .second, .unset, .unset, .unset, .unset] [(.long ((256 : Int64) - (1 : Int64)))])) t → Steps p.tables e below (s₁.setTop (entryFrame m #[(.ref a1), (.long q1)] 9)) t := fun t kt => by
    refine pre5 _ ?_
    show Steps p.tables e below (T3.setTop (mkF m 18 #[.val (.ref a1), .val (.long q1), .second, .val (.long ((q1.toUInt64 >>> ((63 : Int32) &&& 0x3f).toInt64.toUInt64).toInt64)), .second, .unset, .unset, .unset, .unset] [(.long (256 : Int64))])) _
    refine XS.lconst X3.here hx rfl (hb hby own_d_prog_11_10_18) ?_
    show Steps p.tables e below (T3.setTop (mkF m 19 #[.val (.ref a1), .val (.long q1), .second, .val (.long ((q1.toUInt64 >>> ((63 : Int32) &&& 0x3f).toInt64.toUInt64).toInt64)), .second, .unset, .unset, .unset, .unset] [(.long (1 : Int64)), (.long (256 : Int64))])) _
    refine XS.lsub X3.here hx rfl (hb hby own_d_prog_11_10_19) rfl ?_
    show Steps p.tables e below (T3.setTop (mkF m 20 #[.val (.ref a1), .val (.long q1), .second, .val (.long ((q1.toUInt64 >>> ((63 : Int32) &&& 0x3f).toInt64.toUInt64).toInt64)), .second, .unset, .unset, .unset, .unset] [(.long ((256 : Int64) - (1 : Int64)))])) _
    exact kt
  rw [show ((256 : Int64) - (1 : Int64)) = (255 : Int64) from by decide +kernel] at pre6
  obtain ⟨T7, X7, e7, st7⟩ := getF X3 hx hZ hown (host := "") (Or.inl (hw _ (List.mem_of_getElem? (i := 14) rfl))) Via.refl e3 F2 (g := (mkF m 30 #[.val (.ref a1), .val (.long q1), .second, .val (.long ((q1.toUInt64 >>> ((63 : Int32) &&& 0x3f).toInt64.toUInt64).toInt64)), .second, .val (.long (255 : Int64)), .second, .unset, .unset] [(.ref a1), (.int (52 : Int32)), (.long (q1 &&& (4503599627370495 : Int64)))])) rfl rfl (hb hby own_d_prog_11_10_30)
  have pre8 : ∀ t, Steps p.tables e below (T7.setTop (mkF m 34 #[.val (.ref a1), .val (.long q1), .second, .val (.long ((q1.toUInt64 >>> ((63 : Int32) &&& 0x3f).toInt64.toUInt64).toInt64)), .second, .val (.long (255 : Int64)), .second, .unset, .unset] [(.int ((52 : Int32) - (23 : Int32))), (.long (q1 &&& (4503599627370495 : Int64)))])) t → Steps p.tables e below (s₁.setTop (entryFrame m #[(.ref a1), (.long q1)] 9)) t := fun t kt => by
    refine pre6 _ ?_
    show Steps p.tables e below (T3.setTop (mkF m 20 #[.val (.ref a1), .val (.long q1), .second, .val (.long ((q1.toUInt64 >>> ((63 : Int32) &&& 0x3f).toInt64.toUInt64).toInt64)), .second, .unset, .unset, .unset, .unset] [(.long (255 : Int64))])) _
    refine XS.lstore X3.here hx rfl (hb hby own_d_prog_11_10_20) rfl (l' := #[.val (.ref a1), .val (.long q1), .second, .val (.long ((q1.toUInt64 >>> ((63 : Int32) &&& 0x3f).toInt64.toUInt64).toInt64)), .second, .val (.long (255 : Int64)), .second, .unset, .unset]) rfl ?_
    show Steps p.tables e below (T3.setTop (mkF m 22 #[.val (.ref a1), .val (.long q1), .second, .val (.long ((q1.toUInt64 >>> ((63 : Int32) &&& 0x3f).toInt64.toUInt64).toInt64)), .second, .val (.long (255 : Int64)), .second, .unset, .unset] [])) _
    refine XS.lloadN X3.here hx rfl (hb hby own_d_prog_11_10_22) rfl ?_
    show Steps p.tables e below (T3.setTop (mkF m 23 #[.val (.ref a1), .val (.long q1), .second, .val (.long ((q1.toUInt64 >>> ((63 : Int32) &&& 0x3f).toInt64.toUInt64).toInt64)), .second, .val (.long (255 : Int64)), .second, .unset, .unset] [(.long q1)])) _
    refine X3.ldc2Long hx hown (mvT hZ (hw _ (List.mem_of_getElem? (i := 16) rfl))) (g := (mkF m 23 #[.val (.ref a1), .val (.long q1), .second, .val (.long ((q1.toUInt64 >>> ((63 : Int32) &&& 0x3f).toInt64.toUInt64).toInt64)), .second, .val (.long (255 : Int64)), .second, .unset, .unset] [(.long q1)])) rfl (hb hby own_d_prog_11_10_23) _ ?_
    show Steps p.tables e below (T3.setTop (mkF m 26 #[.val (.ref a1), .val (.long q1), .second, .val (.long ((q1.toUInt64 >>> ((63 : Int32) &&& 0x3f).toInt64.toUInt64).toInt64)), .second, .val (.long (255 : Int64)), .second, .unset, .unset] [(.long (4503599627370495 : Int64)), (.long q1)])) _
    refine XS.land X3.here hx rfl (hb hby own_d_prog_11_10_26) rfl ?_
    show Steps p.tables e below (T3.setTop (mkF m 27 #[.val (.ref a1), .val (.long q1), .second, .val (.long ((q1.toUInt64 >>> ((63 : Int32) &&& 0x3f).toInt64.toUInt64).toInt64)), .second, .val (.long (255 : Int64)), .second, .unset, .unset] [(.long (q1 &&& (4503599627370495 : Int64)))])) _
    refine XS.bipush X3.here hx rfl (hb hby own_d_prog_11_10_27) ?_
    show Steps p.tables e below (T3.setTop (mkF m 29 #[.val (.ref a1), .val (.long q1), .second, .val (.long ((q1.toUInt64 >>> ((63 : Int32) &&& 0x3f).toInt64.toUInt64).toInt64)), .second, .val (.long (255 : Int64)), .second, .unset, .unset] [(.int (52 : Int32)), (.long (q1 &&& (4503599627370495 : Int64)))])) _
    refine XS.aloadN X3.here hx rfl (hb hby own_d_prog_11_10_29) rfl rfl ?_
    show Steps p.tables e below (T3.setTop (mkF m 30 #[.val (.ref a1), .val (.long q1), .second, .val (.long ((q1.toUInt64 >>> ((63 : Int32) &&& 0x3f).toInt64.toUInt64).toInt64)), .second, .val (.long (255 : Int64)), .second, .unset, .unset] [(.ref a1), (.int (52 : Int32)), (.long (q1 &&& (4503599627370495 : Int64)))])) _
    refine st7 _ ?_
    show Steps p.tables e below (T7.setTop (mkF m 33 #[.val (.ref a1), .val (.long q1), .second, .val (.long ((q1.toUInt64 >>> ((63 : Int32) &&& 0x3f).toInt64.toUInt64).toInt64)), .second, .val (.long (255 : Int64)), .second, .unset, .unset] [(.int (23 : Int32)), (.int (52 : Int32)), (.long (q1 &&& (4503599627370495 : Int64)))])) _
    refine XS.isub X7.here hx rfl (hb hby own_d_prog_11_10_33) rfl ?_
    show Steps p.tables e below (T7.setTop (mkF m 34 #[.val (.ref a1), .val (.long q1), .second, .val (.long ((q1.toUInt64 >>> ((63 : Int32) &&& 0x3f).toInt64.toUInt64).toInt64)), .second, .val (.long (255 : Int64)), .second, .unset, .unset] [(.int ((52 : Int32) - (23 : Int32))), (.long (q1 &&& (4503599627370495 : Int64)))])) _
    exact kt
  rw [show ((52 : Int32) - (23 : Int32)) = (29 : Int32) from by decide +kernel] at pre8
  obtain ⟨T9, X9, e9, st9⟩ := getF X7 hx hZ hown (host := "") (Or.inl (hw _ (List.mem_of_getElem? (i := 12) rfl))) Via.refl e7 F1 (g := (mkF m 39 #[.val (.ref a1), .val (.long q1), .second, .val (.long ((q1.toUInt64 >>> ((63 : Int32) &&& 0x3f).toInt64.toUInt64).toInt64)), .second, .val (.long (255 : Int64)), .second, .val (.long (((q1 &&& (4503599627370495 : Int64)).toUInt64 >>> ((29 : Int32) &&& 0x3f).toInt64.toUInt64).toInt64)), .second] [(.ref a1), (.long ((q1.toUInt64 >>> ((63 : Int32) &&& 0x3f).toInt64.toUInt64).toInt64))])) rfl rfl (hb hby own_d_prog_11_10_39)
  have pre10 : ∀ t, Steps p.tables e below (T9.setTop (mkF m 44 #[.val (.ref a1), .val (.long q1), .second, .val (.long ((q1.toUInt64 >>> ((63 : Int32) &&& 0x3f).toInt64.toUInt64).toInt64)), .second, .val (.long (255 : Int64)), .second, .val (.long (((q1 &&& (4503599627370495 : Int64)).toUInt64 >>> ((29 : Int32) &&& 0x3f).toInt64.toUInt64).toInt64)), .second] [(.int ((32 : Int32) - (1 : Int32))), (.long ((q1.toUInt64 >>> ((63 : Int32) &&& 0x3f).toInt64.toUInt64).toInt64))])) t → Steps p.tables e below (s₁.setTop (entryFrame m #[(.ref a1), (.long q1)] 9)) t := fun t kt => by
    refine pre8 _ ?_
    show Steps p.tables e below (T7.setTop (mkF m 34 #[.val (.ref a1), .val (.long q1), .second, .val (.long ((q1.toUInt64 >>> ((63 : Int32) &&& 0x3f).toInt64.toUInt64).toInt64)), .second, .val (.long (255 : Int64)), .second, .unset, .unset] [(.int (29 : Int32)), (.long (q1 &&& (4503599627370495 : Int64)))])) _
    refine XS.lushr X7.here hx rfl (hb hby own_d_prog_11_10_34) rfl ?_
    show Steps p.tables e below (T7.setTop (mkF m 35 #[.val (.ref a1), .val (.long q1), .second, .val (.long ((q1.toUInt64 >>> ((63 : Int32) &&& 0x3f).toInt64.toUInt64).toInt64)), .second, .val (.long (255 : Int64)), .second, .unset, .unset] [(.long (((q1 &&& (4503599627370495 : Int64)).toUInt64 >>> ((29 : Int32) &&& 0x3f).toInt64.toUInt64).toInt64))])) _
    refine XS.lstore X7.here hx rfl (hb hby own_d_prog_11_10_35) rfl (l' := #[.val (.ref a1), .val (.long q1), .second, .val (.long ((q1.toUInt64 >>> ((63 : Int32) &&& 0x3f).toInt64.toUInt64).toInt64)), .second, .val (.long (255 : Int64)), .second, .val (.long (((q1 &&& (4503599627370495 : Int64)).toUInt64 >>> ((29 : Int32) &&& 0x3f).toInt64.toUInt64).toInt64)), .second]) rfl ?_
    show Steps p.tables e below (T7.setTop (mkF m 37 #[.val (.ref a1), .val (.long q1), .second, .val (.long ((q1.toUInt64 >>> ((63 : Int32) &&& 0x3f).toInt64.toUInt64).toInt64)), .second, .val (.long (255 : Int64)), .second, .val (.long (((q1 &&& (4503599627370495 : Int64)).toUInt64 >>> ((29 : Int32) &&& 0x3f).toInt64.toUInt64).toInt64)), .second] [])) _
    refine XS.lloadN X7.here hx rfl (hb hby own_d_prog_11_10_37) rfl ?_
    show Steps p.tables e below (T7.setTop (mkF m 38 #[.val (.ref a1), .val (.long q1), .second, .val (.long ((q1.toUInt64 >>> ((63 : Int32) &&& 0x3f).toInt64.toUInt64).toInt64)), .second, .val (.long (255 : Int64)), .second, .val (.long (((q1 &&& (4503599627370495 : Int64)).toUInt64 >>> ((29 : Int32) &&& 0x3f).toInt64.toUInt64).toInt64)), .second] [(.long ((q1.toUInt64 >>> ((63 : Int32) &&& 0x3f).toInt64.toUInt64).toInt64))])) _
    refine XS.aloadN X7.here hx rfl (hb hby own_d_prog_11_10_38) rfl rfl ?_
    show Steps p.tables e below (T7.setTop (mkF m 39 #[.val (.ref a1), .val (.long q1), .second, .val (.long ((q1.toUInt64 >>> ((63 : Int32) &&& 0x3f).toInt64.toUInt64).toInt64)), .second, .val (.long (255 : Int64)), .second, .val (.long (((q1 &&& (4503599627370495 : Int64)).toUInt64 >>> ((29 : Int32) &&& 0x3f).toInt64.toUInt64).toInt64)), .second] [(.ref a1), (.long ((q1.toUInt64 >>> ((63 : Int32) &&& 0x3f).toInt64.toUInt64).toInt64))])) _
    refine st9 _ ?_
    show Steps p.tables e below (T9.setTop (mkF m 42 #[.val (.ref a1), .val (.long q1), .second, .val (.long ((q1.toUInt64 >>> ((63 : Int32) &&& 0x3f).toInt64.toUInt64).toInt64)), .second, .val (.long (255 : Int64)), .second, .val (.long (((q1 &&& (4503599627370495 : Int64)).toUInt64 >>> ((29 : Int32) &&& 0x3f).toInt64.toUInt64).toInt64)), .second] [(.int (32 : Int32)), (.long ((q1.toUInt64 >>> ((63 : Int32) &&& 0x3f).toInt64.toUInt64).toInt64))])) _
    refine XS.iconst X9.here hx rfl (hb hby own_d_prog_11_10_42) ?_
    show Steps p.tables e below (T9.setTop (mkF m 43 #[.val (.ref a1), .val (.long q1), .second, .val (.long ((q1.toUInt64 >>> ((63 : Int32) &&& 0x3f).toInt64.toUInt64).toInt64)), .second, .val (.long (255 : Int64)), .second, .val (.long (((q1 &&& (4503599627370495 : Int64)).toUInt64 >>> ((29 : Int32) &&& 0x3f).toInt64.toUInt64).toInt64)), .second] [(.int (1 : Int32)), (.int (32 : Int32)), (.long ((q1.toUInt64 >>> ((63 : Int32) &&& 0x3f).toInt64.toUInt64).toInt64))])) _
    refine XS.isub X9.here hx rfl (hb hby own_d_prog_11_10_43) rfl ?_
    show Steps p.tables e below (T9.setTop (mkF m 44 #[.val (.ref a1), .val (.long q1), .second, .val (.long ((q1.toUInt64 >>> ((63 : Int32) &&& 0x3f).toInt64.toUInt64).toInt64)), .second, .val (.long (255 : Int64)), .second, .val (.long (((q1 &&& (4503599627370495 : Int64)).toUInt64 >>> ((29 : Int32) &&& 0x3f).toInt64.toUInt64).toInt64)), .second] [(.int ((32 : Int32) - (1 : Int32))), (.long ((q1.toUInt64 >>> ((63 : Int32) &&& 0x3f).toInt64.toUInt64).toInt64))])) _
    exact kt
  rw [show ((32 : Int32) - (1 : Int32)) = (31 : Int32) from by decide +kernel] at pre10
  obtain ⟨T11, X11, e11, st11⟩ := getF X9 hx hZ hown (host := "") (Or.inl (hw _ (List.mem_of_getElem? (i := 14) rfl))) Via.refl e9 F2 (g := (mkF m 48 #[.val (.ref a1), .val (.long q1), .second, .val (.long ((q1.toUInt64 >>> ((63 : Int32) &&& 0x3f).toInt64.toUInt64).toInt64)), .second, .val (.long (255 : Int64)), .second, .val (.long (((q1 &&& (4503599627370495 : Int64)).toUInt64 >>> ((29 : Int32) &&& 0x3f).toInt64.toUInt64).toInt64)), .second] [(.ref a1), (.long (255 : Int64)), (.long (((q1.toUInt64 >>> ((63 : Int32) &&& 0x3f).toInt64.toUInt64).toInt64) <<< ((31 : Int32) &&& 0x3f).toInt64))])) rfl rfl (hb hby own_d_prog_11_10_48)
  have pre12 : ∀ t, Steps p.tables e below (T11.setTop (mkF m 52 #[.val (.ref a1), .val (.long q1), .second, .val (.long ((q1.toUInt64 >>> ((63 : Int32) &&& 0x3f).toInt64.toUInt64).toInt64)), .second, .val (.long (255 : Int64)), .second, .val (.long (((q1 &&& (4503599627370495 : Int64)).toUInt64 >>> ((29 : Int32) &&& 0x3f).toInt64.toUInt64).toInt64)), .second] [(.long ((255 : Int64) <<< ((23 : Int32) &&& 0x3f).toInt64)), (.long (((q1.toUInt64 >>> ((63 : Int32) &&& 0x3f).toInt64.toUInt64).toInt64) <<< ((31 : Int32) &&& 0x3f).toInt64))])) t → Steps p.tables e below (s₁.setTop (entryFrame m #[(.ref a1), (.long q1)] 9)) t := fun t kt => by
    refine pre10 _ ?_
    show Steps p.tables e below (T9.setTop (mkF m 44 #[.val (.ref a1), .val (.long q1), .second, .val (.long ((q1.toUInt64 >>> ((63 : Int32) &&& 0x3f).toInt64.toUInt64).toInt64)), .second, .val (.long (255 : Int64)), .second, .val (.long (((q1 &&& (4503599627370495 : Int64)).toUInt64 >>> ((29 : Int32) &&& 0x3f).toInt64.toUInt64).toInt64)), .second] [(.int (31 : Int32)), (.long ((q1.toUInt64 >>> ((63 : Int32) &&& 0x3f).toInt64.toUInt64).toInt64))])) _
    refine XS.lshl X9.here hx rfl (hb hby own_d_prog_11_10_44) rfl ?_
    show Steps p.tables e below (T9.setTop (mkF m 45 #[.val (.ref a1), .val (.long q1), .second, .val (.long ((q1.toUInt64 >>> ((63 : Int32) &&& 0x3f).toInt64.toUInt64).toInt64)), .second, .val (.long (255 : Int64)), .second, .val (.long (((q1 &&& (4503599627370495 : Int64)).toUInt64 >>> ((29 : Int32) &&& 0x3f).toInt64.toUInt64).toInt64)), .second] [(.long (((q1.toUInt64 >>> ((63 : Int32) &&& 0x3f).toInt64.toUInt64).toInt64) <<< ((31 : Int32) &&& 0x3f).toInt64))])) _
    refine XS.lload X9.here hx rfl (hb hby own_d_prog_11_10_45) rfl ?_
    show Steps p.tables e below (T9.setTop (mkF m 47 #[.val (.ref a1), .val (.long q1), .second, .val (.long ((q1.toUInt64 >>> ((63 : Int32) &&& 0x3f).toInt64.toUInt64).toInt64)), .second, .val (.long (255 : Int64)), .second, .val (.long (((q1 &&& (4503599627370495 : Int64)).toUInt64 >>> ((29 : Int32) &&& 0x3f).toInt64.toUInt64).toInt64)), .second] [(.long (255 : Int64)), (.long (((q1.toUInt64 >>> ((63 : Int32) &&& 0x3f).toInt64.toUInt64).toInt64) <<< ((31 : Int32) &&& 0x3f).toInt64))])) _
    refine XS.aloadN X9.here hx rfl (hb hby own_d_prog_11_10_47) rfl rfl ?_
    show Steps p.tables e below (T9.setTop (mkF m 48 #[.val (.ref a1), .val (.long q1), .second, .val (.long ((q1.toUInt64 >>> ((63 : Int32) &&& 0x3f).toInt64.toUInt64).toInt64)), .second, .val (.long (255 : Int64)), .second, .val (.long (((q1 &&& (4503599627370495 : Int64)).toUInt64 >>> ((29 : Int32) &&& 0x3f).toInt64.toUInt64).toInt64)), .second] [(.ref a1), (.long (255 : Int64)), (.long (((q1.toUInt64 >>> ((63 : Int32) &&& 0x3f).toInt64.toUInt64).toInt64) <<< ((31 : Int32) &&& 0x3f).toInt64))])) _
    refine st11 _ ?_
    show Steps p.tables e below (T11.setTop (mkF m 51 #[.val (.ref a1), .val (.long q1), .second, .val (.long ((q1.toUInt64 >>> ((63 : Int32) &&& 0x3f).toInt64.toUInt64).toInt64)), .second, .val (.long (255 : Int64)), .second, .val (.long (((q1 &&& (4503599627370495 : Int64)).toUInt64 >>> ((29 : Int32) &&& 0x3f).toInt64.toUInt64).toInt64)), .second] [(.int (23 : Int32)), (.long (255 : Int64)), (.long (((q1.toUInt64 >>> ((63 : Int32) &&& 0x3f).toInt64.toUInt64).toInt64) <<< ((31 : Int32) &&& 0x3f).toInt64))])) _
    refine XS.lshl X11.here hx rfl (hb hby own_d_prog_11_10_51) rfl ?_
    show Steps p.tables e below (T11.setTop (mkF m 52 #[.val (.ref a1), .val (.long q1), .second, .val (.long ((q1.toUInt64 >>> ((63 : Int32) &&& 0x3f).toInt64.toUInt64).toInt64)), .second, .val (.long (255 : Int64)), .second, .val (.long (((q1 &&& (4503599627370495 : Int64)).toUInt64 >>> ((29 : Int32) &&& 0x3f).toInt64.toUInt64).toInt64)), .second] [(.long ((255 : Int64) <<< ((23 : Int32) &&& 0x3f).toInt64)), (.long (((q1.toUInt64 >>> ((63 : Int32) &&& 0x3f).toInt64.toUInt64).toInt64) <<< ((31 : Int32) &&& 0x3f).toInt64))])) _
    exact kt
  rw [show ((255 : Int64) <<< ((23 : Int32) &&& 0x3f).toInt64) = (2139095040 : Int64) from by decide +kernel] at pre12
  obtain ⟨fs, hr, hrun, hended, hW, hsame⟩ := X11.leave (v := some (.long (((((q1.toUInt64 >>> ((63 : Int32) &&& 0x3f).toInt64.toUInt64).toInt64) <<< ((31 : Int32) &&& 0x3f).toInt64) ||| (2139095040 : Int64)) ||| (((q1 &&& (4503599627370495 : Int64)).toUInt64 >>> ((29 : Int32) &&& 0x3f).toInt64.toUInt64).toInt64)))) (fun h => by rw [Bd.returns] at h; cases h)
  refine ⟨_, _, pre12 _ ?_, hrun, hended, _, _, rfl, ?_, ⟨_, rfl⟩, hW, hsame.mono (by decide) (by decide)⟩
  ·
    show Steps p.tables e below (T11.setTop (mkF m 52 #[.val (.ref a1), .val (.long q1), .second, .val (.long ((q1.toUInt64 >>> ((63 : Int32) &&& 0x3f).toInt64.toUInt64).toInt64)), .second, .val (.long (255 : Int64)), .second, .val (.long (((q1 &&& (4503599627370495 : Int64)).toUInt64 >>> ((29 : Int32) &&& 0x3f).toInt64.toUInt64).toInt64)), .second] [(.long (2139095040 : Int64)), (.long (((q1.toUInt64 >>> ((63 : Int32) &&& 0x3f).toInt64.toUInt64).toInt64) <<< ((31 : Int32) &&& 0x3f).toInt64))])) _
    refine XS.lor X11.here hx rfl (hb hby own_d_prog_11_10_52) rfl ?_
    show Steps p.tables e below (T11.setTop (mkF m 53 #[.val (.ref a1), .val (.long q1), .second, .val (.long ((q1.toUInt64 >>> ((63 : Int32) &&& 0x3f).toInt64.toUInt64).toInt64)), .second, .val (.long (255 : Int64)), .second, .val (.long (((q1 &&& (4503599627370495 : Int64)).toUInt64 >>> ((29 : Int32) &&& 0x3f).toInt64.toUInt64).toInt64)), .second] [(.long ((((q1.toUInt64 >>> ((63 : Int32) &&& 0x3f).toInt64.toUInt64).toInt64) <<< ((31 : Int32) &&& 0x3f).toInt64) ||| (2139095040 : Int64)))])) _
    refine XS.lload X11.here hx rfl (hb hby own_d_prog_11_10_53) rfl ?_
    show Steps p.tables e below (T11.setTop (mkF m 55 #[.val (.ref a1), .val (.long q1), .second, .val (.long ((q1.toUInt64 >>> ((63 : Int32) &&& 0x3f).toInt64.toUInt64).toInt64)), .second, .val (.long (255 : Int64)), .second, .val (.long (((q1 &&& (4503599627370495 : Int64)).toUInt64 >>> ((29 : Int32) &&& 0x3f).toInt64.toUInt64).toInt64)), .second] [(.long (((q1 &&& (4503599627370495 : Int64)).toUInt64 >>> ((29 : Int32) &&& 0x3f).toInt64.toUInt64).toInt64)), (.long ((((q1.toUInt64 >>> ((63 : Int32) &&& 0x3f).toInt64.toUInt64).toInt64) <<< ((31 : Int32) &&& 0x3f).toInt64) ||| (2139095040 : Int64)))])) _
    refine XS.lor X11.here hx rfl (hb hby own_d_prog_11_10_55) rfl ?_
    show Steps p.tables e below (T11.setTop (mkF m 56 #[.val (.ref a1), .val (.long q1), .second, .val (.long ((q1.toUInt64 >>> ((63 : Int32) &&& 0x3f).toInt64.toUInt64).toInt64)), .second, .val (.long (255 : Int64)), .second, .val (.long (((q1 &&& (4503599627370495 : Int64)).toUInt64 >>> ((29 : Int32) &&& 0x3f).toInt64.toUInt64).toInt64)), .second] [(.long (((((q1.toUInt64 >>> ((63 : Int32) &&& 0x3f).toInt64.toUInt64).toInt64) <<< ((31 : Int32) &&& 0x3f).toInt64) ||| (2139095040 : Int64)) ||| (((q1 &&& (4503599627370495 : Int64)).toUInt64 >>> ((29 : Int32) &&& 0x3f).toInt64.toUInt64).toInt64)))])) _
    exact retOut X11 hx (t := .long) Bd.returns rfl (Or.inr (Or.inl ⟨rfl, rfl, _, rfl⟩)) (hb hby own_d_prog_11_10_56) hr
  ·
    show Q_rmF1 Z a1 q1 h0 n0 (_) T11.heap (_)
    rw [e11]
    exact ⟨rfl, N0, rfl⟩
theorem ef_rmF2 (m : MethodId) (a1 : Addr) (q1 : Int64) : entryFrame m #[(.ref a1), (.long q1)] 9 = mkF m 0 #[.val (.ref a1), .val (.long q1), .second, .unset, .unset, .unset, .unset, .unset, .unset] [] := by first | (simp [entryFrame, mkF, argsToLocals, Value.category]; done) | rfl
def Q_rmF2 (Z : State) (a1 : Addr) (q1 : Int64) (h0 : Heap) (n0 : Nat) (v : Option Value) (h : Heap) (L : List Loc) : Prop := v = some (.long (((((q1.toUInt64 >>> ((63 : Int32) &&& 0x3f).toInt64.toUInt64).toInt64) <<< ((63 : Int32) &&& 0x3f).toInt64) ||| (9218868437227405312 : Int64)) ||| (((q1 &&& (4503599627370495 : Int64)).toUInt64 >>> ((0 : Int32) &&& 0x3f).toInt64.toUInt64).toInt64))) ∧ Fr n0 L ∧ h = h0
set_option maxRecDepth 65536 in
set_option maxHeartbeats 40000000 in
theorem rmF2 (l : Launch) (Z : State) (a0 : Array Value) (hw : ∀ d ∈ tables_1, d.before a0 Z = true) (ws : List Jvm.Cond) (a1 : Addr) (q1 : Int64) (h0 : Heap) (n0 : Nat) (Z0 : n0 ≤ h0.size) (F1 : Fld Z h0 a1 "com/example/chronotag/chronotag/codec/FloatFormat" "width" "I" (.int (64 : Int32))) (F2 : Fld Z h0 a1 "com/example/chronotag/chronotag/codec/FloatFormat" "fractionWidth" "I" (.int (52 : Int32))) :
    MetFree l (⟨"com/example/chronotag/chronotag/codec/FloatFormat", "narrowNaN", "(J)J"⟩ : MethodName) (head1 (Jvm.Cond.code (⟨"com/example/chronotag/chronotag/codec/FloatFormat", "narrowNaN", "(J)J"⟩ : MethodName) prog_11_method_10_code 9 (some .long) :: ws) ({ frames := 0, cells := 0, slots := 0, locals := 0 } : Room)) (fun a U => a = #[(.ref a1), (.long q1)] ∧ Z.Warmed39 U.vm ∧ U.heap = h0) (fun _ _ _ _ _ => True) (fun _ U o U' => ∃ v L, o = .returned v ∧ Q_rmF2 Z a1 q1 h0 n0 (v) U'.heap (L) ∧ FrameEnd U o U' L 0 0) := by
  refine MetFree.of_bodySF (plainFor_of_name own_pn0) hisR ?_
  intro p e s m args below meth c s₁ Bd hml0 hP hK
  obtain ⟨rfl, hZ, hh⟩ := hP
  have hx := Bd.exec
  have hby := Bd.bytes
  have hml : c.maxLocals = 9 := hml0
  have hown : s.vm.findClass "com/example/chronotag/chronotag/codec/FloatFormat" = some m.cls := findClass_of_methodNamed Bd.named
  have hnm := (name_of_methodNamed Bd.named Bd.method).1
  have X0 : Stand p l e ({ frames := 0, cells := 0, slots := 0, locals := 0 } : Room) s m #[(.ref a1), (.long q1)] below meth c s₁ [] 0 0 := Stand.of_body Bd
  have e0 : s₁.heap = h0 := by rw [← hh, Bd.state]; rfl
  have N0 := Fr.nil n0
  have pre0 : ∀ t, Steps p.tables e below (s₁.setTop (mkF m 0 #[.val (.ref a1), .val (.long q1), .second, .unset, .unset, .unset, .unset, .unset, .unset] [])) t → Steps p.tables e below (s₁.setTop (entryFrame m #[(.ref a1), (.long q1)] 9)) t := fun t k => castTop (ef_rmF2 m a1 q1) k
  obtain ⟨T1, X1, e1, st1⟩ := getF X0 hx hZ hown (host := "") (Or.inl (hw _ (List.mem_of_getElem? (i := 12) rfl))) Via.refl e0 F1 (g := (mkF m 7 #[.val (.ref a1), .val (.long q1), .second, .val (.long ((q1.toUInt64 >>> ((63 : Int32) &&& 0x3f).toInt64.toUInt64).toInt64)), .second, .unset, .unset, .unset, .unset] [(.ref a1), (.long (1 : Int64))])) rfl rfl (hb hby own_d_prog_11_10_7)
  have pre2 : ∀ t, Steps p.tables e below (T1.setTop (mkF m 12 #[.val (.ref a1), .val (.long q1), .second, .val (.long ((q1.toUInt64 >>> ((63 : Int32) &&& 0x3f).toInt64.toUInt64).toInt64)), .second, .unset, .unset, .unset, .unset] [(.int ((64 : Int32) - (1 : Int32))), (.long (1 : Int64))])) t → Steps p.tables e below (s₁.setTop (entryFrame m #[(.ref a1), (.long q1)] 9)) t := fun t kt => by
    refine pre0 _ ?_
    show Steps p.tables e below (s₁.setTop (mkF m 0 #[.val (.ref a1), .val (.long q1), .second, .unset, .unset, .unset, .unset, .unset, .unset] [])) _
    refine XS.lloadN X0.here hx rfl (hb hby own_d_prog_11_10_0) rfl ?_
    show Steps p.tables e below (s₁.setTop (mkF m 1 #[.val (.ref a1), .val (.long q1), .second, .unset, .unset, .unset, .unset, .unset, .unset] [(.long q1)])) _
    refine XS.bipush X0.here hx rfl (hb hby own_d_prog_11_10_1) ?_
    show Steps p.tables e below (s₁.setTop (mkF m 3 #[.val (.ref a1), .val (.long q1), .second, .unset, .unset, .unset, .unset, .unset, .unset] [(.int (63 : Int32)), (.long q1)])) _
    refine XS.lushr X0.here hx rfl (hb hby own_d_prog_11_10_3) rfl ?_
    show Steps p.tables e below (s₁.setTop (mkF m 4 #[.val (.ref a1), .val (.long q1), .second, .unset, .unset, .unset, .unset, .unset, .unset] [(.long ((q1.toUInt64 >>> ((63 : Int32) &&& 0x3f).toInt64.toUInt64).toInt64))])) _
    refine XS.lstoreN X0.here hx rfl (hb hby own_d_prog_11_10_4) rfl (l' := #[.val (.ref a1), .val (.long q1), .second, .val (.long ((q1.toUInt64 >>> ((63 : Int32) &&& 0x3f).toInt64.toUInt64).toInt64)), .second, .unset, .unset, .unset, .unset]) rfl ?_
    show Steps p.tables e below (s₁.setTop (mkF m 5 #[.val (.ref a1), .val (.long q1), .second, .val (.long ((q1.toUInt64 >>> ((63 : Int32) &&& 0x3f).toInt64.toUInt64).toInt64)), .second, .unset, .unset, .unset, .unset] [])) _
    refine XS.lconst X0.here hx rfl (hb hby own_d_prog_11_10_5) ?_
    show Steps p.tables e below (s₁.setTop (mkF m 6 #[.val (.ref a1), .val (.long q1), .second, .val (.long ((q1.toUInt64 >>> ((63 : Int32) &&& 0x3f).toInt64.toUInt64).toInt64)), .second, .unset, .unset, .unset, .unset] [(.long (1 : Int64))])) _
    refine XS.aloadN X0.here hx rfl (hb hby own_d_prog_11_10_6) rfl rfl ?_
    show Steps p.tables e below (s₁.setTop (mkF m 7 #[.val (.ref a1), .val (.long q1), .second, .val (.long ((q1.toUInt64 >>> ((63 : Int32) &&& 0x3f).toInt64.toUInt64).toInt64)), .second, .unset, .unset, .unset, .unset] [(.ref a1), (.long (1 : Int64))])) _
    refine st1 _ ?_
    show Steps p.tables e below (T1.setTop (mkF m 10 #[.val (.ref a1), .val (.long q1), .second, .val (.long ((q1.toUInt64 >>> ((63 : Int32) &&& 0x3f).toInt64.toUInt64).toInt64)), .second, .unset, .unset, .unset, .unset] [(.int (64 : Int32)), (.long (1 : Int64))])) _
    refine XS.iconst X1.here hx rfl (hb hby own_d_prog_11_10_10) ?_
    show Steps p.tables e below (T1.setTop (mkF m 11 #[.val (.ref a1), .val (.long q1), .second, .val (.long ((q1.toUInt64 >>> ((63 : Int32) &&& 0x3f).toInt64.toUInt64).toInt64)), .second, .unset, .unset, .unset, .unset] [(.int (1 : Int32)), (.int (64 : Int32)), (.long (1 : Int64))])) _
    refine XS.isub X1.here hx rfl (hb hby own_d_prog_11_10_11) rfl ?_
    show Steps p.tables e below (T1.setTop (mkF m 12 #[.val (.ref a1), .val (.long q1), .second, .val (.long ((q1.toUInt64 >>> ((63 : Int32) &&& 0x3f).toInt64.toUInt64).toInt64)), .second, .unset, .unset, .unset, .unset] [(.int ((64 : Int32) - (1 : Int32))), (.long (1 : Int64))])) _
    exact kt
  rw [show ((64 : Int32) - (1 : Int32)) = (63 : Int32) from by decide +kernel] at pre2
  obtain ⟨T3, X3, e3, st3⟩ := getF X1 hx hZ hown (host := "") (Or.inl (hw _ (List.mem_of_getElem? (i := 14) rfl))) Via.refl e1 F2 (g := (mkF m 13 #[.val (.ref a1), .val (.long q1), .second, .val (.long ((q1.toUInt64 >>> ((63 : Int32) &&& 0x3f).toInt64.toUInt64).toInt64)), .second, .unset, .unset, .unset, .unset] [(.ref a1), (.int (63 : Int32)), (.long (1 : Int64))])) rfl rfl (hb hby own_d_prog_11_10_13)
  have pre4 : ∀ t, Steps p.tables e below (T3.setTop (mkF m 17 #[.val (.ref a1), .val (.long q1), .second, .val (.long ((q1.toUInt64 >>> ((63 : Int32) &&& 0x3f).toInt64.toUInt64).toInt64)), .second, .unset, .unset, .unset, .unset] [(.int ((63 : Int32) - (52 : Int32))), (.long (1 : Int64))])) t → Steps p.tables e below (s₁.setTop (entryFrame m #[(.ref a1), (.long q1)] 9)) t := fun t kt => by
    refine pre2 _ ?_
    show Steps p.tables e below (T1.setTop (mkF m 12 #[.val (.ref a1), .val (.long q1), .second, .val (.long ((q1.toUInt64 >>> ((63 : Int32) &&& 0x3f).toInt64.toUInt64).toInt64)), .second, .unset, .unset, .unset, .unset] [(.int (63 : Int32)), (.long (1 : Int64))])) _
    refine XS.aloadN X1.here hx rfl (hb hby own_d_prog_11_10_12) rfl rfl ?_
    show Steps p.tables e below (T1.setTop (mkF m 13 #[.val (.ref a1), .val (.long q1), .second, .val (.long ((q1.toUInt64 >>> ((63 : Int32) &&& 0x3f).toInt64.toUInt64).toInt64)), .second, .unset, .unset, .unset, .unset] [(.ref a1), (.int (63 : Int32)), (.long (1 : Int64))])) _
    refine st3 _ ?_
    show Steps p.tables e below (T3.setTop (mkF m 16 #[.val (.ref a1), .val (.long q1), .second, .val (.long ((q1.toUInt64 >>> ((63 : Int32) &&& 0x3f).toInt64.toUInt64).toInt64)), .second, .unset, .unset, .unset, .unset] [(.int (52 : Int32)), (.int (63 : Int32)), (.long (1 : Int64))])) _
    refine XS.isub X3.here hx rfl (hb hby own_d_prog_11_10_16) rfl ?_
    show Steps p.tables e below (T3.setTop (mkF m 17 #[.val (.ref a1), .val (.long q1), .second, .val (.long ((q1.toUInt64 >>> ((63 : Int32) &&& 0x3f).toInt64.toUInt64).toInt64)), .second, .unset, .unset, .unset, .unset] [(.int ((63 : Int32) - (52 : Int32))), (.long (1 : Int64))])) _
    exact kt
  rw [show ((63 : Int32) - (52 : Int32)) = (11 : Int32) from by decide +kernel] at pre4
  have pre5 : ∀ t, Steps p.tables e below (T3.setTop (mkF m 18 #[.val (.ref a1), .val (.long q1), .second, .val (.long ((q1.toUInt64 >>> ((63 : Int32) &&& 0x3f).toInt64.toUInt64).toInt64)), .second, .unset, .unset, .unset, .unset] [(.long ((1 : Int64) <<< ((11 : Int32) &&& 0x3f).toInt64))])) t → Steps p.tables e below (s₁.setTop (entryFrame m #[(.ref a1), (.long q1)] 9)) t := fun t kt => by
    refine pre4 _ ?_
    show Steps p.tables e below (T3.setTop (mkF m 17 #[.val (.ref a1), .val (.long q1), .second, .val (.long ((q1.toUInt64 >>> ((63 : Int32) &&& 0x3f).toInt64.toUInt64).toInt64)), .second, .unset, .unset, .unset, .unset] [(.int (11 : Int32)), (.long (1 : Int64))])) _
    refine XS.lshl X3.here hx rfl (hb hby own_d_prog_11_10_17) rfl ?_
    show Steps p.tables e below (T3.setTop (mkF m 18 #[.val (.ref a1), .val (.long q1), .second, .val (.long ((q1.toUInt64 >>> ((63 : Int32) &&& 0x3f).toInt64.toUInt64).toInt64)), .second, .unset, .unset, .unset, .unset] [(.long ((1 : Int64) <<< ((11 : Int32) &&& 0x3f).toInt64))])) _
    exact kt
  rw [show ((1 : Int64) <<< ((11 : Int32) &&& 0x3f).toInt64) = (2048 : Int64) from by decide +kernel] at pre5
  have pre6 : ∀ t, Steps p.tables e below (T3.setTop (mkF m 20 #[.val (.ref a1), .val (.long q1), .second, .val (.long ((q1.toUInt64 >>> ((63 : Int32) &&& 0x3f).toInt64.toUInt64).toInt64)), .second, .unset, .unset, .unset, .unset] [(.long ((2048 : Int64) - (1 : Int64)))])) t → Steps p.tables e below (s₁.setTop (entryFrame m #[(.ref a1), (.long q1)] 9)) t := fun t kt => by
    refine pre5 _ ?_
    show Steps p.tables e below (T3.setTop (mkF m 18 #[.val (.ref a1), .val (.long q1), .second, .val (.long ((q1.toUInt64 >>> ((63 : Int32) &&& 0x3f).toInt64.toUInt64).toInt64)), .second, .unset, .unset, .unset, .unset] [(.long (2048 : Int64))])) _
    refine XS.lconst X3.here hx rfl (hb hby own_d_prog_11_10_18) ?_
    show Steps p.tables e below (T3.setTop (mkF m 19 #[.val (.ref a1), .val (.long q1), .second, .val (.long ((q1.toUInt64 >>> ((63 : Int32) &&& 0x3f).toInt64.toUInt64).toInt64)), .second, .unset, .unset, .unset, .unset] [(.long (1 : Int64)), (.long (2048 : Int64))])) _
    refine XS.lsub X3.here hx rfl (hb hby own_d_prog_11_10_19) rfl ?_
    show Steps p.tables e below (T3.setTop (mkF m 20 #[.val (.ref a1), .val (.long q1), .second, .val (.long ((q1.toUInt64 >>> ((63 : Int32) &&& 0x3f).toInt64.toUInt64).toInt64)), .second, .unset, .unset, .unset, .unset] [(.long ((2048 : Int64) - (1 : Int64)))])) _
    exact kt
  rw [show ((2048 : Int64) - (1 : Int64)) = (2047 : Int64) from by decide +kernel] at pre6
  obtain ⟨T7, X7, e7, st7⟩ := getF X3 hx hZ hown (host := "") (Or.inl (hw _ (List.mem_of_getElem? (i := 14) rfl))) Via.refl e3 F2 (g := (mkF m 30 #[.val (.ref a1), .val (.long q1), .second, .val (.long ((q1.toUInt64 >>> ((63 : Int32) &&& 0x3f).toInt64.toUInt64).toInt64)), .second, .val (.long (2047 : Int64)), .second, .unset, .unset] [(.ref a1), (.int (52 : Int32)), (.long (q1 &&& (4503599627370495 : Int64)))])) rfl rfl (hb hby own_d_prog_11_10_30)
  have pre8 : ∀ t, Steps p.tables e below (T7.setTop (mkF m 34 #[.val (.ref a1), .val (.long q1), .second, .val (.long ((q1.toUInt64 >>> ((63 : Int32) &&& 0x3f).toInt64.toUInt64).toInt64)), .second, .val (.long (2047 : Int64)), .second, .unset, .unset] [(.int ((52 : Int32) - (52 : Int32))), (.long (q1 &&& (4503599627370495 : Int64)))])) t → Steps p.tables e below (s₁.setTop (entryFrame m #[(.ref a1), (.long q1)] 9)) t := fun t kt => by
    refine pre6 _ ?_
    show Steps p.tables e below (T3.setTop (mkF m 20 #[.val (.ref a1), .val (.long q1), .second, .val (.long ((q1.toUInt64 >>> ((63 : Int32) &&& 0x3f).toInt64.toUInt64).toInt64)), .second, .unset, .unset, .unset, .unset] [(.long (2047 : Int64))])) _
    refine XS.lstore X3.here hx rfl (hb hby own_d_prog_11_10_20) rfl (l' := #[.val (.ref a1), .val (.long q1), .second, .val (.long ((q1.toUInt64 >>> ((63 : Int32) &&& 0x3f).toInt64.toUInt64).toInt64)), .second, .val (.long (2047 : Int64)), .second, .unset, .unset]) rfl ?_
    show Steps p.tables e below (T3.setTop (mkF m 22 #[.val (.ref a1), .val (.long q1), .second, .val (.long ((q1.toUInt64 >>> ((63 : Int32) &&& 0x3f).toInt64.toUInt64).toInt64)), .second, .val (.long (2047 : Int64)), .second, .unset, .unset] [])) _
    refine XS.lloadN X3.here hx rfl (hb hby own_d_prog_11_10_22) rfl ?_
    show Steps p.tables e below (T3.setTop (mkF m 23 #[.val (.ref a1), .val (.long q1), .second, .val (.long ((q1.toUInt64 >>> ((63 : Int32) &&& 0x3f).toInt64.toUInt64).toInt64)), .second, .val (.long (2047 : Int64)), .second, .unset, .unset] [(.long q1)])) _
    refine X3.ldc2Long hx hown (mvT hZ (hw _ (List.mem_of_getElem? (i := 16) rfl))) (g := (mkF m 23 #[.val (.ref a1), .val (.long q1), .second, .val (.long ((q1.toUInt64 >>> ((63 : Int32) &&& 0x3f).toInt64.toUInt64).toInt64)), .second, .val (.long (2047 : Int64)), .second, .unset, .unset] [(.long q1)])) rfl (hb hby own_d_prog_11_10_23) _ ?_
    show Steps p.tables e below (T3.setTop (mkF m 26 #[.val (.ref a1), .val (.long q1), .second, .val (.long ((q1.toUInt64 >>> ((63 : Int32) &&& 0x3f).toInt64.toUInt64).toInt64)), .second, .val (.long (2047 : Int64)), .second, .unset, .unset] [(.long (4503599627370495 : Int64)), (.long q1)])) _
    refine XS.land X3.here hx rfl (hb hby own_d_prog_11_10_26) rfl ?_
    show Steps p.tables e below (T3.setTop (mkF m 27 #[.val (.ref a1), .val (.long q1), .second, .val (.long ((q1.toUInt64 >>> ((63 : Int32) &&& 0x3f).toInt64.toUInt64).toInt64)), .second, .val (.long (2047 : Int64)), .second, .unset, .unset] [(.long (q1 &&& (4503599627370495 : Int64)))])) _
    refine XS.bipush X3.here hx rfl (hb hby own_d_prog_11_10_27) ?_
    show Steps p.tables e below (T3.setTop (mkF m 29 #[.val (.ref a1), .val (.long q1), .second, .val (.long ((q1.toUInt64 >>> ((63 : Int32) &&& 0x3f).toInt64.toUInt64).toInt64)), .second, .val (.long (2047 : Int64)), .second, .unset, .unset] [(.int (52 : Int32)), (.long (q1 &&& (4503599627370495 : Int64)))])) _
    refine XS.aloadN X3.here hx rfl (hb hby own_d_prog_11_10_29) rfl rfl ?_
    show Steps p.tables e below (T3.setTop (mkF m 30 #[.val (.ref a1), .val (.long q1), .second, .val (.long ((q1.toUInt64 >>> ((63 : Int32) &&& 0x3f).toInt64.toUInt64).toInt64)), .second, .val (.long (2047 : Int64)), .second, .unset, .unset] [(.ref a1), (.int (52 : Int32)), (.long (q1 &&& (4503599627370495 : Int64)))])) _
    refine st7 _ ?_
    show Steps p.tables e below (T7.setTop (mkF m 33 #[.val (.ref a1), .val (.long q1), .second, .val (.long ((q1.toUInt64 >>> ((63 : Int32) &&& 0x3f).toInt64.toUInt64).toInt64)), .second, .val (.long (2047 : Int64)), .second, .unset, .unset] [(.int (52 : Int32)), (.int (52 : Int32)), (.long (q1 &&& (4503599627370495 : Int64)))])) _
    refine XS.isub X7.here hx rfl (hb hby own_d_prog_11_10_33) rfl ?_
    show Steps p.tables e below (T7.setTop (mkF m 34 #[.val (.ref a1), .val (.long q1), .second, .val (.long ((q1.toUInt64 >>> ((63 : Int32) &&& 0x3f).toInt64.toUInt64).toInt64)), .second, .val (.long (2047 : Int64)), .second, .unset, .unset] [(.int ((52 : Int32) - (52 : Int32))), (.long (q1 &&& (4503599627370495 : Int64)))])) _
    exact kt
  rw [show ((52 : Int32) - (52 : Int32)) = (0 : Int32) from by decide +kernel] at pre8
  obtain ⟨T9, X9, e9, st9⟩ := getF X7 hx hZ hown (host := "") (Or.inl (hw _ (List.mem_of_getElem? (i := 12) rfl))) Via.refl e7 F1 (g := (mkF m 39 #[.val (.ref a1), .val (.long q1), .second, .val (.long ((q1.toUInt64 >>> ((63 : Int32) &&& 0x3f).toInt64.toUInt64).toInt64)), .second, .val (.long (2047 : Int64)), .second, .val (.long (((q1 &&& (4503599627370495 : Int64)).toUInt64 >>> ((0 : Int32) &&& 0x3f).toInt64.toUInt64).toInt64)), .second] [(.ref a1), (.long ((q1.toUInt64 >>> ((63 : Int32) &&& 0x3f).toInt64.toUInt64).toInt64))])) rfl rfl (hb hby own_d_prog_11_10_39)
  have pre10 : ∀ t, Steps p.tables e below (T9.setTop (mkF m 44 #[.val (.ref a1), .val (.long q1), .second, .val (.long ((q1.toUInt64 >>> ((63 : Int32) &&& 0x3f).toInt64.toUInt64).toInt64)), .second, .val (.long (2047 : Int64)), .second, .val (.long (((q1 &&& (4503599627370495 : Int64)).toUInt64 >>> ((0 : Int32) &&& 0x3f).toInt64.toUInt64).toInt64)), .second] [(.int ((64 : Int32) - (1 : Int32))), (.long ((q1.toUInt64 >>> ((63 : Int32) &&& 0x3f).toInt64.toUInt64).toInt64))])) t → Steps p.tables e below (s₁.setTop (entryFrame m #[(.ref a1), (.long q1)] 9)) t := fun t kt => by
    refine pre8 _ ?_
    show Steps p.tables e below (T7.setTop (mkF m 34 #[.val (.ref a1), .val (.long q1), .second, .val (.long ((q1.toUInt64 >>> ((63 : Int32) &&& 0x3f).toInt64.toUInt64).toInt64)), .second, .val (.long (2047 : Int64)), .second, .unset, .unset] [(.int (0 : Int32)), (.long (q1 &&& (4503599627370495 : Int64)))])) _
    refine XS.lushr X7.here hx rfl (hb hby own_d_prog_11_10_34) rfl ?_
    show Steps p.tables e below (T7.setTop (mkF m 35 #[.val (.ref a1), .val (.long q1), .second, .val (.long ((q1.toUInt64 >>> ((63 : Int32) &&& 0x3f).toInt64.toUInt64).toInt64)), .second, .val (.long (2047 : Int64)), .second, .unset, .unset] [(.long (((q1 &&& (4503599627370495 : Int64)).toUInt64 >>> ((0 : Int32) &&& 0x3f).toInt64.toUInt64).toInt64))])) _
    refine XS.lstore X7.here hx rfl (hb hby own_d_prog_11_10_35) rfl (l' := #[.val (.ref a1), .val (.long q1), .second, .val (.long ((q1.toUInt64 >>> ((63 : Int32) &&& 0x3f).toInt64.toUInt64).toInt64)), .second, .val (.long (2047 : Int64)), .second, .val (.long (((q1 &&& (4503599627370495 : Int64)).toUInt64 >>> ((0 : Int32) &&& 0x3f).toInt64.toUInt64).toInt64)), .second]) rfl ?_
    show Steps p.tables e below (T7.setTop (mkF m 37 #[.val (.ref a1), .val (.long q1), .second, .val (.long ((q1.toUInt64 >>> ((63 : Int32) &&& 0x3f).toInt64.toUInt64).toInt64)), .second, .val (.long (2047 : Int64)), .second, .val (.long (((q1 &&& (4503599627370495 : Int64)).toUInt64 >>> ((0 : Int32) &&& 0x3f).toInt64.toUInt64).toInt64)), .second] [])) _
    refine XS.lloadN X7.here hx rfl (hb hby own_d_prog_11_10_37) rfl ?_
    show Steps p.tables e below (T7.setTop (mkF m 38 #[.val (.ref a1), .val (.long q1), .second, .val (.long ((q1.toUInt64 >>> ((63 : Int32) &&& 0x3f).toInt64.toUInt64).toInt64)), .second, .val (.long (2047 : Int64)), .second, .val (.long (((q1 &&& (4503599627370495 : Int64)).toUInt64 >>> ((0 : Int32) &&& 0x3f).toInt64.toUInt64).toInt64)), .second] [(.long ((q1.toUInt64 >>> ((63 : Int32) &&& 0x3f).toInt64.toUInt64).toInt64))])) _
    refine XS.aloadN X7.here hx rfl (hb hby own_d_prog_11_10_38) rfl rfl ?_
    show Steps p.tables e below (T7.setTop (mkF m 39 #[.val (.ref a1), .val (.long q1), .second, .val (.long ((q1.toUInt64 >>> ((63 : Int32) &&& 0x3f).toInt64.toUInt64).toInt64)), .second, .val (.long (2047 : Int64)), .second, .val (.long (((q1 &&& (4503599627370495 : Int64)).toUInt64 >>> ((0 : Int32) &&& 0x3f).toInt64.toUInt64).toInt64)), .second] [(.ref a1), (.long ((q1.toUInt64 >>> ((63 : Int32) &&& 0x3f).toInt64.toUInt64).toInt64))])) _
    refine st9 _ ?_
    show Steps p.tables e below (T9.setTop (mkF m 42 #[.val (.ref a1), .val (.long q1), .second, .val (.long ((q1.toUInt64 >>> ((63 : Int32) &&& 0x3f).toInt64.toUInt64).toInt64)), .second, .val (.long (2047 : Int64)), .second, .val (.long (((q1 &&& (4503599627370495 : Int64)).toUInt64 >>> ((0 : Int32) &&& 0x3f).toInt64.toUInt64).toInt64)), .second] [(.int (64 : Int32)), (.long ((q1.toUInt64 >>> ((63 : Int32) &&& 0x3f).toInt64.toUInt64).toInt64))])) _
    refine XS.iconst X9.here hx rfl (hb hby own_d_prog_11_10_42) ?_
    show Steps p.tables e below (T9.setTop (mkF m 43 #[.val (.ref a1), .val (.long q1), .second, .val (.long ((q1.toUInt64 >>> ((63 : Int32) &&& 0x3f).toInt64.toUInt64).toInt64)), .second, .val (.long (2047 : Int64)), .second, .val (.long (((q1 &&& (4503599627370495 : Int64)).toUInt64 >>> ((0 : Int32) &&& 0x3f).toInt64.toUInt64).toInt64)), .second] [(.int (1 : Int32)), (.int (64 : Int32)), (.long ((q1.toUInt64 >>> ((63 : Int32) &&& 0x3f).toInt64.toUInt64).toInt64))])) _
    refine XS.isub X9.here hx rfl (hb hby own_d_prog_11_10_43) rfl ?_
    show Steps p.tables e below (T9.setTop (mkF m 44 #[.val (.ref a1), .val (.long q1), .second, .val (.long ((q1.toUInt64 >>> ((63 : Int32) &&& 0x3f).toInt64.toUInt64).toInt64)), .second, .val (.long (2047 : Int64)), .second, .val (.long (((q1 &&& (4503599627370495 : Int64)).toUInt64 >>> ((0 : Int32) &&& 0x3f).toInt64.toUInt64).toInt64)), .second] [(.int ((64 : Int32) - (1 : Int32))), (.long ((q1.toUInt64 >>> ((63 : Int32) &&& 0x3f).toInt64.toUInt64).toInt64))])) _
    exact kt
  rw [show ((64 : Int32) - (1 : Int32)) = (63 : Int32) from by decide +kernel] at pre10
  obtain ⟨T11, X11, e11, st11⟩ := getF X9 hx hZ hown (host := "") (Or.inl (hw _ (List.mem_of_getElem? (i := 14) rfl))) Via.refl e9 F2 (g := (mkF m 48 #[.val (.ref a1), .val (.long q1), .second, .val (.long ((q1.toUInt64 >>> ((63 : Int32) &&& 0x3f).toInt64.toUInt64).toInt64)), .second, .val (.long (2047 : Int64)), .second, .val (.long (((q1 &&& (4503599627370495 : Int64)).toUInt64 >>> ((0 : Int32) &&& 0x3f).toInt64.toUInt64).toInt64)), .second] [(.ref a1), (.long (2047 : Int64)), (.long (((q1.toUInt64 >>> ((63 : Int32) &&& 0x3f).toInt64.toUInt64).toInt64) <<< ((63 : Int32) &&& 0x3f).toInt64))])) rfl rfl (hb hby own_d_prog_11_10_48)
  have pre12 : ∀ t, Steps p.tables e below (T11.setTop (mkF m 52 #[.val (.ref a1), .val (.long q1), .second, .val (.long ((q1.toUInt64 >>> ((63 : Int32) &&& 0x3f).toInt64.toUInt64).toInt64)), .second, .val (.long (2047 : Int64)), .second, .val (.long (((q1 &&& (4503599627370495 : Int64)).toUInt64 >>> ((0 : Int32) &&& 0x3f).toInt64.toUInt64).toInt64)), .second] [(.long ((2047 : Int64) <<< ((52 : Int32) &&& 0x3f).toInt64)), (.long (((q1.toUInt64 >>> ((63 : Int32) &&& 0x3f).toInt64.toUInt64).toInt64) <<< ((63 : Int32) &&& 0x3f).toInt64))])) t → Steps p.tables e below (s₁.setTop (entryFrame m #[(.ref a1), (.long q1)] 9)) t := fun t kt => by
    refine pre10 _ ?_
    show Steps p.tables e below (T9.setTop (mkF m 44 #[.val (.ref a1), .val (.long q1), .second, .val (.long ((q1.toUInt64 >>> ((63 : Int32) &&& 0x3f).toInt64.toUInt64).toInt64)), .second, .val (.long (2047 : Int64)), .second, .val (.long (((q1 &&& (4503599627370495 : Int64)).toUInt64 >>> ((0 : Int32) &&& 0x3f).toInt64.toUInt64).toInt64)), .second] [(.int (63 : Int32)), (.long ((q1.toUInt64 >>> ((63 : Int32) &&& 0x3f).toInt64.toUInt64).toInt64))])) _
    refine XS.lshl X9.here hx rfl (hb hby own_d_prog_11_10_44) rfl ?_
    show Steps p.tables e below (T9.setTop (mkF m 45 #[.val (.ref a1), .val (.long q1), .second, .val (.long ((q1.toUInt64 >>> ((63 : Int32) &&& 0x3f).toInt64.toUInt64).toInt64)), .second, .val (.long (2047 : Int64)), .second, .val (.long (((q1 &&& (4503599627370495 : Int64)).toUInt64 >>> ((0 : Int32) &&& 0x3f).toInt64.toUInt64).toInt64)), .second] [(.long (((q1.toUInt64 >>> ((63 : Int32) &&& 0x3f).toInt64.toUInt64).toInt64) <<< ((63 : Int32) &&& 0x3f).toInt64))])) _
    refine XS.lload X9.here hx rfl (hb hby own_d_prog_11_10_45) rfl ?_
    show Steps p.tables e below (T9.setTop (mkF m 47 #[.val (.ref a1), .val (.long q1), .second, .val (.long ((q1.toUInt64 >>> ((63 : Int32) &&& 0x3f).toInt64.toUInt64).toInt64)), .second, .val (.long (2047 : Int64)), .second, .val (.long (((q1 &&& (4503599627370495 : Int64)).toUInt64 >>> ((0 : Int32) &&& 0x3f).toInt64.toUInt64).toInt64)), .second] [(.long (2047 : Int64)), (.long (((q1.toUInt64 >>> ((63 : Int32) &&& 0x3f).toInt64.toUInt64).toInt64) <<< ((63 : Int32) &&& 0x3f).toInt64))])) _
    refine XS.aloadN X9.here hx rfl (hb hby own_d_prog_11_10_47) rfl rfl ?_
    show Steps p.tables e below (T9.setTop (mkF m 48 #[.val (.ref a1), .val (.long q1), .second, .val (.long ((q1.toUInt64 >>> ((63 : Int32) &&& 0x3f).toInt64.toUInt64).toInt64)), .second, .val (.long (2047 : Int64)), .second, .val (.long (((q1 &&& (4503599627370495 : Int64)).toUInt64 >>> ((0 : Int32) &&& 0x3f).toInt64.toUInt64).toInt64)), .second] [(.ref a1), (.long (2047 : Int64)), (.long (((q1.toUInt64 >>> ((63 : Int32) &&& 0x3f).toInt64.toUInt64).toInt64) <<< ((63 : Int32) &&& 0x3f).toInt64))])) _
    refine st11 _ ?_
    show Steps p.tables e below (T11.setTop (mkF m 51 #[.val (.ref a1), .val (.long q1), .second, .val (.long ((q1.toUInt64 >>> ((63 : Int32) &&& 0x3f).toInt64.toUInt64).toInt64)), .second, .val (.long (2047 : Int64)), .second, .val (.long (((q1 &&& (4503599627370495 : Int64)).toUInt64 >>> ((0 : Int32) &&& 0x3f).toInt64.toUInt64).toInt64)), .second] [(.int (52 : Int32)), (.long (2047 : Int64)), (.long (((q1.toUInt64 >>> ((63 : Int32) &&& 0x3f).toInt64.toUInt64).toInt64) <<< ((63 : Int32) &&& 0x3f).toInt64))])) _
    refine XS.lshl X11.here hx rfl (hb hby own_d_prog_11_10_51) rfl ?_
    show Steps p.tables e below (T11.setTop (mkF m 52 #[.val (.ref a1), .val (.long q1), .second, .val (.long ((q1.toUInt64 >>> ((63 : Int32) &&& 0x3f).toInt64.toUInt64).toInt64)), .second, .val (.long (2047 : Int64)), .second, .val (.long (((q1 &&& (4503599627370495 : Int64)).toUInt64 >>> ((0 : Int32) &&& 0x3f).toInt64.toUInt64).toInt64)), .second] [(.long ((2047 : Int64) <<< ((52 : Int32) &&& 0x3f).toInt64)), (.long (((q1.toUInt64 >>> ((63 : Int32) &&& 0x3f).toInt64.toUInt64).toInt64) <<< ((63 : Int32) &&& 0x3f).toInt64))])) _
    exact kt
  rw [show ((2047 : Int64) <<< ((52 : Int32) &&& 0x3f).toInt64) = (9218868437227405312 : Int64) from by decide +kernel] at pre12
  obtain ⟨fs, hr, hrun, hended, hW, hsame⟩ := X11.leave (v := some (.long (((((q1.toUInt64 >>> ((63 : Int32) &&& 0x3f).toInt64.toUInt64).toInt64) <<< ((63 : Int32) &&& 0x3f).toInt64) ||| (9218868437227405312 : Int64)) ||| (((q1 &&& (4503599627370495 : Int64)).toUInt64 >>> ((0 : Int32) &&& 0x3f).toInt64.toUInt64).toInt64)))) (fun h => by rw [Bd.returns] at h; cases h)
  refine ⟨_, _, pre12 _ ?_, hrun, hended, _, _, rfl, ?_, ⟨_, rfl⟩, hW, hsame.mono (by decide) (by decide)⟩
  ·
    show Steps p.tables e below (T11.setTop (mkF m 52 #[.val (.ref a1), .val (.long q1), .second, .val (.long ((q1.toUInt64 >>> ((63 : Int32) &&& 0x3f).toInt64.toUInt64).toInt64)), .second, .val (.long (2047 : Int64)), .second, .val (.long (((q1 &&& (4503599627370495 : Int64)).toUInt64 >>> ((0 : Int32) &&& 0x3f).toInt64.toUInt64).toInt64)), .second] [(.long (9218868437227405312 : Int64)), (.long (((q1.toUInt64 >>> ((63 : Int32) &&& 0x3f).toInt64.toUInt64).toInt64) <<< ((63 : Int32) &&& 0x3f).toInt64))])) _
    refine XS.lor X11.here hx rfl (hb hby own_d_prog_11_10_52) rfl ?_
    show Steps p.tables e below (T11.setTop (mkF m 53 #[.val (.ref a1), .val (.long q1), .second, .val (.long ((q1.toUInt64 >>> ((63 : Int32) &&& 0x3f).toInt64.toUInt64).toInt64)), .second, .val (.long (2047 : Int64)), .second, .val (.long (((q1 &&& (4503599627370495 : Int64)).toUInt64 >>> ((0 : Int32) &&& 0x3f).toInt64.toUInt64).toInt64)), .second] [(.long ((((q1.toUInt64 >>> ((63 : Int32) &&& 0x3f).toInt64.toUInt64).toInt64) <<< ((63 : Int32) &&& 0x3f).toInt64) ||| (9218868437227405312 : Int64)))])) _
    refine XS.lload X11.here hx rfl (hb hby own_d_prog_11_10_53) rfl ?_
    show Steps p.tables e below (T11.setTop (mkF m 55 #[.val (.ref a1), .val (.long q1), .second, .val (.long ((q1.toUInt64 >>> ((63 : Int32) &&& 0x3f).toInt64.toUInt64).toInt64)), .second, .val (.long (2047 : Int64)), .second, .val (.long (((q1 &&& (4503599627370495 : Int64)).toUInt64 >>> ((0 : Int32) &&& 0x3f).toInt64.toUInt64).toInt64)), .second] [(.long (((q1 &&& (4503599627370495 : Int64)).toUInt64 >>> ((0 : Int32) &&& 0x3f).toInt64.toUInt64).toInt64)), (.long ((((q1.toUInt64 >>> ((63 : Int32) &&& 0x3f).toInt64.toUInt64).toInt64) <<< ((63 : Int32) &&& 0x3f).toInt64) ||| (9218868437227405312 : Int64)))])) _
    refine XS.lor X11.here hx rfl (hb hby own_d_prog_11_10_55) rfl ?_
    show Steps p.tables e below (T11.setTop (mkF m 56 #[.val (.ref a1), .val (.long q1), .second, .val (.long ((q1.toUInt64 >>> ((63 : Int32) &&& 0x3f).toInt64.toUInt64).toInt64)), .second, .val (.long (2047 : Int64)), .second, .val (.long (((q1 &&& (4503599627370495 : Int64)).toUInt64 >>> ((0 : Int32) &&& 0x3f).toInt64.toUInt64).toInt64)), .second] [(.long (((((q1.toUInt64 >>> ((63 : Int32) &&& 0x3f).toInt64.toUInt64).toInt64) <<< ((63 : Int32) &&& 0x3f).toInt64) ||| (9218868437227405312 : Int64)) ||| (((q1 &&& (4503599627370495 : Int64)).toUInt64 >>> ((0 : Int32) &&& 0x3f).toInt64.toUInt64).toInt64)))])) _
    exact retOut X11 hx (t := .long) Bd.returns rfl (Or.inr (Or.inl ⟨rfl, rfl, _, rfl⟩)) (hb hby own_d_prog_11_10_56) hr
  ·
    show Q_rmF2 Z a1 q1 h0 n0 (_) T11.heap (_)
    rw [e11]
    exact ⟨rfl, N0, rfl⟩
theorem own_pd0 : parseMethodDescriptor "(J)J" = some ⟨[.long], some .long⟩ := by decide +kernel
theorem own_pn1 : plainName "com/example/chronotag/chronotag/codec/FloatFormatNarrowNaNPinLaw" = true := by first | (simp [plainName, overriddenIn]; done) | decide +kernel
theorem ef_rm0 (m : MethodId) (p1 : Int32) (p2 : Int32) (q3 : Int64) : entryFrame m #[(.int p1), (.int p2), (.long q3)] maxLocals = mkF m 0 #[.val (.int p1), .val (.int p2), .val (.long q3), .second, .unset, .unset, .unset, .unset, .unset, .unset, .unset, .unset, .unset, .unset, .unset, .unset] [] := by first | (simp [entryFrame, mkF, argsToLocals, Value.category, maxLocals]; done) | rfl
def Q_rm0 (Z : State) (p1 : Int32) (p2 : Int32) (q3 : Int64) (w0 : Addr) (w1 : Addr) (w2 : Addr) (h0 : Heap) (n0 : Nat) (v : Option Value) (h : Heap) (L : List Loc) : Prop := v = some (.int 1) ∧ Fr n0 L
set_option maxRecDepth 65536 in
set_option maxHeartbeats 40000000 in
theorem rm0 (l : Launch) (Z : State) (a0 : Array Value) (hw : ∀ d ∈ tables_1, d.before a0 Z = true) (ws : List Jvm.Cond) (p1 : Int32) (p2 : Int32) (q3 : Int64) (w0 : Addr) (w1 : Addr) (w2 : Addr) (h0 : Heap) (n0 : Nat) (Z0 : n0 ≤ h0.size) (S0 : Sta Z h0 "com/example/chronotag/chronotag/codec/FloatFormat" "HALF" "Lcom/example/chronotag/chronotag/codec/FloatFormat;" (.ref w0)) (E0 : Exa Z h0 w0 "com/example/chronotag/chronotag/codec/FloatFormat") (F0w : Fld Z h0 w0 "com/example/chronotag/chronotag/codec/FloatFormat" "width" "I" (.int (16 : Int32))) (F0f : Fld Z h0 w0 "com/example/chronotag/chronotag/codec/FloatFormat" "fractionWidth" "I" (.int (10 : Int32))) (S1 : Sta Z h0 "com/example/chronotag/chronotag/codec/FloatFormat" "SINGLE" "Lcom/example/chronotag/chronotag/codec/FloatFormat;" (.ref w1)) (E1 : Exa Z h0 w1 "com/example/chronotag/chronotag/codec/FloatFormat") (F1w : Fld Z h0 w1 "com/example/chronotag/chronotag/codec/FloatFormat" "width" "I" (.int (32 : Int32))) (F1f : Fld Z h0 w1 "com/example/chronotag/chronotag/codec/FloatFormat" "fractionWidth" "I" (.int (23 : Int32))) (S2 : Sta Z h0 "com/example/chronotag/chronotag/codec/FloatFormat" "DOUBLE" "Lcom/example/chronotag/chronotag/codec/FloatFormat;" (.ref w2)) (E2 : Exa Z h0 w2 "com/example/chronotag/chronotag/codec/FloatFormat") (F2w : Fld Z h0 w2 "com/example/chronotag/chronotag/codec/FloatFormat" "width" "I" (.int (64 : Int32))) (F2f : Fld Z h0 w2 "com/example/chronotag/chronotag/codec/FloatFormat" "fractionWidth" "I" (.int (52 : Int32))) :
    MetFree l x (head1 (Jvm.Cond.code x code maxLocals ret :: ws) room_1) (fun a U => a = #[(.int p1), (.int p2), (.long q3)] ∧ Z.Warmed39 U.vm ∧ U.heap = h0) (fun _ _ _ _ _ => True) (fun _ U o U' => ∃ v L, o = .returned v ∧ Q_rm0 Z p1 p2 q3 w0 w1 w2 h0 n0 (v) U'.heap (L) ∧ FrameEnd U o U' L 0 0) := by
  refine MetFree.of_bodySF (plainFor_of_name own_pn1) hisR ?_
  intro p e s m args below meth c s₁ Bd hml0 hP hK
  obtain ⟨rfl, hZ, hh⟩ := hP
  have hx := Bd.exec
  have hby := Bd.bytes
  have hml : c.maxLocals = 16 := hml0
  have hown : s.vm.findClass "com/example/chronotag/chronotag/codec/FloatFormatNarrowNaNPinLaw" = some m.cls := findClass_of_methodNamed Bd.named
  have hnm := (name_of_methodNamed Bd.named Bd.method).1
  have X0 : Stand p l e room_1 s m #[(.int p1), (.int p2), (.long q3)] below meth c s₁ [] 0 0 := Stand.of_body Bd
  have e0 : s₁.heap = h0 := by rw [← hh, Bd.state]; rfl
  have N0 := Fr.nil n0
  have pre0 : ∀ t, Steps p.tables e below (s₁.setTop (mkF m 0 #[.val (.int p1), .val (.int p2), .val (.long q3), .second, .unset, .unset, .unset, .unset, .unset, .unset, .unset, .unset, .unset, .unset, .unset, .unset] [])) t → Steps p.tables e below (s₁.setTop (entryFrame m #[(.int p1), (.int p2), (.long q3)] maxLocals)) t := fun t k => castTop (ef_rm0 m p1 p2 q3) k
  have pre1 : ∀ t, Steps p.tables e below (s₁.setTop (mkF m 8 #[.val (.int p1), .val (.int p2), .val (.long q3), .second, .val (.int ((p1 &&& (2147483647 : Int32)) % (3 : Int32))), .unset, .unset, .unset, .unset, .unset, .unset, .unset, .unset, .unset, .unset, .unset] [])) t → Steps p.tables e below (s₁.setTop (entryFrame m #[(.int p1), (.int p2), (.long q3)] maxLocals)) t := fun t kt => by
    refine pre0 _ ?_
    show Steps p.tables e below (s₁.setTop (mkF m 0 #[.val (.int p1), .val (.int p2), .val (.long q3), .second, .unset, .unset, .unset, .unset, .unset, .unset, .unset, .unset, .unset, .unset, .unset, .unset] [])) _
    refine XS.iloadN X0.here hx rfl (hb hby at_0) rfl ?_
    show Steps p.tables e below (s₁.setTop (mkF m 1 #[.val (.int p1), .val (.int p2), .val (.long q3), .second, .unset, .unset, .unset, .unset, .unset, .unset, .unset, .unset, .unset, .unset, .unset, .unset] [(.int p1)])) _
    refine X0.ldcInt hx hown (mvT hZ (hw _ (List.mem_of_getElem? (i := 0) rfl))) (g := (mkF m 1 #[.val (.int p1), .val (.int p2), .val (.long q3), .second, .unset, .unset, .unset, .unset, .unset, .unset, .unset, .unset, .unset, .unset, .unset, .unset] [(.int p1)])) rfl (hb hby at_1) _ ?_
    show Steps p.tables e below (s₁.setTop (mkF m 3 #[.val (.int p1), .val (.int p2), .val (.long q3), .second, .unset, .unset, .unset, .unset, .unset, .unset, .unset, .unset, .unset, .unset, .unset, .unset] [(.int (2147483647 : Int32)), (.int p1)])) _
    refine XS.iand X0.here hx rfl (hb hby at_3) rfl ?_
    show Steps p.tables e below (s₁.setTop (mkF m 4 #[.val (.int p1), .val (.int p2), .val (.long q3), .second, .unset, .unset, .unset, .unset, .unset, .unset, .unset, .unset, .unset, .unset, .unset, .unset] [(.int (p1 &&& (2147483647 : Int32)))])) _
    refine XS.iconst X0.here hx rfl (hb hby at_4) ?_
    show Steps p.tables e below (s₁.setTop (mkF m 5 #[.val (.int p1), .val (.int p2), .val (.long q3), .second, .unset, .unset, .unset, .unset, .unset, .unset, .unset, .unset, .unset, .unset, .unset, .unset] [(.int (3 : Int32)), (.int (p1 &&& (2147483647 : Int32)))])) _
    refine iremM (g := (mkF m 5 #[.val (.int p1), .val (.int p2), .val (.long q3), .second, .unset, .unset, .unset, .unset, .unset, .unset, .unset, .unset, .unset, .unset, .unset, .unset] [(.int (3 : Int32)), (.int (p1 &&& (2147483647 : Int32)))])) X0 hx rfl (hb hby at_5) rfl (by decide) ?_
    show Steps p.tables e below (s₁.setTop (mkF m 6 #[.val (.int p1), .val (.int p2), .val (.long q3), .second, .unset, .unset, .unset, .unset, .unset, .unset, .unset, .unset, .unset, .unset, .unset, .unset] [(.int ((p1 &&& (2147483647 : Int32)) % (3 : Int32)))])) _
    refine XS.istore X0.here hx rfl (hb hby at_6) rfl (l' := #[.val (.int p1), .val (.int p2), .val (.long q3), .second, .val (.int ((p1 &&& (2147483647 : Int32)) % (3 : Int32))), .unset, .unset, .unset, .unset, .unset, .unset, .unset, .unset, .unset, .unset, .unset]) rfl ?_
    show Steps p.tables e below (s₁.setTop (mkF m 8 #[.val (.int p1), .val (.int p2), .val (.long q3), .second, .val (.int ((p1 &&& (2147483647 : Int32)) % (3 : Int32))), .unset, .unset, .unset, .unset, .unset, .unset, .unset, .unset, .unset, .unset, .unset] [])) _
    exact kt
  rcases own_m3 p1 with hk0 | hk1 | hk2
  ·
    rw [hk0] at pre1
    have pre2 : ∀ t, Steps p.tables e below (s₁.setTop (mkF m 14 #[.val (.int p1), .val (.int p2), .val (.long q3), .second, .val (.int (0 : Int32)), .val (.long ((p2 &&& (1 : Int32)).toInt64)), .second, .unset, .unset, .unset, .unset, .unset, .unset, .unset, .unset, .unset] [])) t → Steps p.tables e below (s₁.setTop (entryFrame m #[(.int p1), (.int p2), (.long q3)] maxLocals)) t := fun t kt => by
      refine pre1 _ ?_
      show Steps p.tables e below (s₁.setTop (mkF m 8 #[.val (.int p1), .val (.int p2), .val (.long q3), .second, .val (.int (0 : Int32)), .unset, .unset, .unset, .unset, .unset, .unset, .unset, .unset, .unset, .unset, .unset] [])) _
      refine XS.iloadN X0.here hx rfl (hb hby at_8) rfl ?_
      show Steps p.tables e below (s₁.setTop (mkF m 9 #[.val (.int p1), .val (.int p2), .val (.long q3), .second, .val (.int (0 : Int32)), .unset, .unset, .unset, .unset, .unset, .unset, .unset, .unset, .unset, .unset, .unset] [(.int p2)])) _
      refine XS.iconst X0.here hx rfl (hb hby at_9) ?_
      show Steps p.tables e below (s₁.setTop (mkF m 10 #[.val (.int p1), .val (.int p2), .val (.long q3), .second, .val (.int (0 : Int32)), .unset, .unset, .unset, .unset, .unset, .unset, .unset, .unset, .unset, .unset, .unset] [(.int (1 : Int32)), (.int p2)])) _
      refine XS.iand X0.here hx rfl (hb hby at_10) rfl ?_
      show Steps p.tables e below (s₁.setTop (mkF m 11 #[.val (.int p1), .val (.int p2), .val (.long q3), .second, .val (.int (0 : Int32)), .unset, .unset, .unset, .unset, .unset, .unset, .unset, .unset, .unset, .unset, .unset] [(.int (p2 &&& (1 : Int32)))])) _
      refine XS.i2l X0.here hx rfl (hb hby at_11) rfl ?_
      show Steps p.tables e below (s₁.setTop (mkF m 12 #[.val (.int p1), .val (.int p2), .val (.long q3), .second, .val (.int (0 : Int32)), .unset, .unset, .unset, .unset, .unset, .unset, .unset, .unset, .unset, .unset, .unset] [(.long ((p2 &&& (1 : Int32)).toInt64))])) _
      refine XS.lstore X0.here hx rfl (hb hby at_12) rfl (l' := #[.val (.int p1), .val (.int p2), .val (.long q3), .second, .val (.int (0 : Int32)), .val (.long ((p2 &&& (1 : Int32)).toInt64)), .second, .unset, .unset, .unset, .unset, .unset, .unset, .unset, .unset, .unset]) rfl ?_
      show Steps p.tables e below (s₁.setTop (mkF m 14 #[.val (.int p1), .val (.int p2), .val (.long q3), .second, .val (.int (0 : Int32)), .val (.long ((p2 &&& (1 : Int32)).toInt64)), .second, .unset, .unset, .unset, .unset, .unset, .unset, .unset, .unset, .unset] [])) _
      exact kt
    rcases own_s1 p2 with hs0 | hs1
    ·
      rw [hs0] at pre2
      have pre3 : ∀ t, Steps p.tables e below (s₁.setTop (mkF m 19 #[.val (.int p1), .val (.int p2), .val (.long q3), .second, .val (.int (0 : Int32)), .val (.long (0 : Int64)), .second, .unset, .unset, .unset, .unset, .unset, .unset, .unset, .unset, .unset] [(.long ((0 : Int64) <<< ((63 : Int32) &&& 0x3f).toInt64))])) t → Steps p.tables e below (s₁.setTop (entryFrame m #[(.int p1), (.int p2), (.long q3)] maxLocals)) t := fun t kt => by
        refine pre2 _ ?_
        show Steps p.tables e below (s₁.setTop (mkF m 14 #[.val (.int p1), .val (.int p2), .val (.long q3), .second, .val (.int (0 : Int32)), .val (.long (0 : Int64)), .second, .unset, .unset, .unset, .unset, .unset, .unset, .unset, .unset, .unset] [])) _
        refine XS.lload X0.here hx rfl (hb hby at_14) rfl ?_
        show Steps p.tables e below (s₁.setTop (mkF m 16 #[.val (.int p1), .val (.int p2), .val (.long q3), .second, .val (.int (0 : Int32)), .val (.long (0 : Int64)), .second, .unset, .unset, .unset, .unset, .unset, .unset, .unset, .unset, .unset] [(.long (0 : Int64))])) _
        refine XS.bipush X0.here hx rfl (hb hby at_16) ?_
        show Steps p.tables e below (s₁.setTop (mkF m 18 #[.val (.int p1), .val (.int p2), .val (.long q3), .second, .val (.int (0 : Int32)), .val (.long (0 : Int64)), .second, .unset, .unset, .unset, .unset, .unset, .unset, .unset, .unset, .unset] [(.int (63 : Int32)), (.long (0 : Int64))])) _
        refine XS.lshl X0.here hx rfl (hb hby at_18) rfl ?_
        show Steps p.tables e below (s₁.setTop (mkF m 19 #[.val (.int p1), .val (.int p2), .val (.long q3), .second, .val (.int (0 : Int32)), .val (.long (0 : Int64)), .second, .unset, .unset, .unset, .unset, .unset, .unset, .unset, .unset, .unset] [(.long ((0 : Int64) <<< ((63 : Int32) &&& 0x3f).toInt64))])) _
        exact kt
      rw [show ((0 : Int64) <<< ((63 : Int32) &&& 0x3f).toInt64) = (0 : Int64) from by decide +kernel] at pre3
      have pre4 : ∀ t, Steps p.tables e below (s₁.setTop (mkF m 23 #[.val (.int p1), .val (.int p2), .val (.long q3), .second, .val (.int (0 : Int32)), .val (.long (0 : Int64)), .second, .unset, .unset, .unset, .unset, .unset, .unset, .unset, .unset, .unset] [(.long ((0 : Int64) ||| (9218868437227405312 : Int64)))])) t → Steps p.tables e below (s₁.setTop (entryFrame m #[(.int p1), (.int p2), (.long q3)] maxLocals)) t := fun t kt => by
        refine pre3 _ ?_
        show Steps p.tables e below (s₁.setTop (mkF m 19 #[.val (.int p1), .val (.int p2), .val (.long q3), .second, .val (.int (0 : Int32)), .val (.long (0 : Int64)), .second, .unset, .unset, .unset, .unset, .unset, .unset, .unset, .unset, .unset] [(.long (0 : Int64))])) _
        refine X0.ldc2Long hx hown (mvT hZ (hw _ (List.mem_of_getElem? (i := 1) rfl))) (g := (mkF m 19 #[.val (.int p1), .val (.int p2), .val (.long q3), .second, .val (.int (0 : Int32)), .val (.long (0 : Int64)), .second, .unset, .unset, .unset, .unset, .unset, .unset, .unset, .unset, .unset] [(.long (0 : Int64))])) rfl (hb hby at_19) _ ?_
        show Steps p.tables e below (s₁.setTop (mkF m 22 #[.val (.int p1), .val (.int p2), .val (.long q3), .second, .val (.int (0 : Int32)), .val (.long (0 : Int64)), .second, .unset, .unset, .unset, .unset, .unset, .unset, .unset, .unset, .unset] [(.long (9218868437227405312 : Int64)), (.long (0 : Int64))])) _
        refine XS.lor X0.here hx rfl (hb hby at_22) rfl ?_
        show Steps p.tables e below (s₁.setTop (mkF m 23 #[.val (.int p1), .val (.int p2), .val (.long q3), .second, .val (.int (0 : Int32)), .val (.long (0 : Int64)), .second, .unset, .unset, .unset, .unset, .unset, .unset, .unset, .unset, .unset] [(.long ((0 : Int64) ||| (9218868437227405312 : Int64)))])) _
        exact kt
      rw [show ((0 : Int64) ||| (9218868437227405312 : Int64)) = (9218868437227405312 : Int64) from by decide +kernel] at pre4
      obtain ⟨T5, X5, e5, st5⟩ := getS2 X0 hx hZ hown (host := "") (Or.inl (hw _ (List.mem_of_getElem? (i := 2) rfl))) Via.refl e0 S0 (g := (mkF m 30 #[.val (.int p1), .val (.int p2), .val (.long q3), .second, .val (.int (0 : Int32)), .val (.long (0 : Int64)), .second, .val (.long (9218868437227405312 : Int64)), .second, .unset, .unset, .unset, .unset, .unset, .unset, .unset] [])) rfl (hb hby at_30)
      have pre6 : ∀ t, Steps p.tables e below (T5.setTop (mkF m 42 #[.val (.int p1), .val (.int p2), .val (.long q3), .second, .val (.int (0 : Int32)), .val (.long (0 : Int64)), .second, .val (.long (9218868437227405312 : Int64)), .second, .val (.ref w0), .val (.long (q3 &&& (1023 : Int64))), .second, .unset, .unset, .unset, .unset] [])) t → Steps p.tables e below (s₁.setTop (entryFrame m #[(.int p1), (.int p2), (.long q3)] maxLocals)) t := fun t kt => by
        refine pre4 _ ?_
        show Steps p.tables e below (s₁.setTop (mkF m 23 #[.val (.int p1), .val (.int p2), .val (.long q3), .second, .val (.int (0 : Int32)), .val (.long (0 : Int64)), .second, .unset, .unset, .unset, .unset, .unset, .unset, .unset, .unset, .unset] [(.long (9218868437227405312 : Int64))])) _
        refine XS.lstore X0.here hx rfl (hb hby at_23) rfl (l' := #[.val (.int p1), .val (.int p2), .val (.long q3), .second, .val (.int (0 : Int32)), .val (.long (0 : Int64)), .second, .val (.long (9218868437227405312 : Int64)), .second, .unset, .unset, .unset, .unset, .unset, .unset, .unset]) rfl ?_
        show Steps p.tables e below (s₁.setTop (mkF m 25 #[.val (.int p1), .val (.int p2), .val (.long q3), .second, .val (.int (0 : Int32)), .val (.long (0 : Int64)), .second, .val (.long (9218868437227405312 : Int64)), .second, .unset, .unset, .unset, .unset, .unset, .unset, .unset] [])) _
        refine XS.iload X0.here hx rfl (hb hby at_25) rfl ?_
        show Steps p.tables e below (s₁.setTop (mkF m 27 #[.val (.int p1), .val (.int p2), .val (.long q3), .second, .val (.int (0 : Int32)), .val (.long (0 : Int64)), .second, .val (.long (9218868437227405312 : Int64)), .second, .unset, .unset, .unset, .unset, .unset, .unset, .unset] [(.int (0 : Int32))])) _
        refine XS.ifNo X0.here hx rfl (hb hby at_27) rfl ((if0 _ _).trans (teq (by decide : (0 : Int32) = (0 : Int32))).2) ?_
        show Steps p.tables e below (s₁.setTop (mkF m 30 #[.val (.int p1), .val (.int p2), .val (.long q3), .second, .val (.int (0 : Int32)), .val (.long (0 : Int64)), .second, .val (.long (9218868437227405312 : Int64)), .second, .unset, .unset, .unset, .unset, .unset, .unset, .unset] [])) _
        refine st5 _ ?_
        show Steps p.tables e below (T5.setTop (mkF m 33 #[.val (.int p1), .val (.int p2), .val (.long q3), .second, .val (.int (0 : Int32)), .val (.long (0 : Int64)), .second, .val (.long (9218868437227405312 : Int64)), .second, .unset, .unset, .unset, .unset, .unset, .unset, .unset] [(.ref w0)])) _
        refine XS.astore X5.here hx rfl (hb hby at_33) rfl rfl (l' := #[.val (.int p1), .val (.int p2), .val (.long q3), .second, .val (.int (0 : Int32)), .val (.long (0 : Int64)), .second, .val (.long (9218868437227405312 : Int64)), .second, .val (.ref w0), .unset, .unset, .unset, .unset, .unset, .unset]) rfl ?_
        show Steps p.tables e below (T5.setTop (mkF m 35 #[.val (.int p1), .val (.int p2), .val (.long q3), .second, .val (.int (0 : Int32)), .val (.long (0 : Int64)), .second, .val (.long (9218868437227405312 : Int64)), .second, .val (.ref w0), .unset, .unset, .unset, .unset, .unset, .unset] [])) _
        refine XS.lloadN X5.here hx rfl (hb hby at_35) rfl ?_
        show Steps p.tables e below (T5.setTop (mkF m 36 #[.val (.int p1), .val (.int p2), .val (.long q3), .second, .val (.int (0 : Int32)), .val (.long (0 : Int64)), .second, .val (.long (9218868437227405312 : Int64)), .second, .val (.ref w0), .unset, .unset, .unset, .unset, .unset, .unset] [(.long q3)])) _
        refine X5.ldc2Long hx hown (mvT hZ (hw _ (List.mem_of_getElem? (i := 5) rfl))) (g := (mkF m 36 #[.val (.int p1), .val (.int p2), .val (.long q3), .second, .val (.int (0 : Int32)), .val (.long (0 : Int64)), .second, .val (.long (9218868437227405312 : Int64)), .second, .val (.ref w0), .unset, .unset, .unset, .unset, .unset, .unset] [(.long q3)])) rfl (hb hby at_36) _ ?_
        show Steps p.tables e below (T5.setTop (mkF m 39 #[.val (.int p1), .val (.int p2), .val (.long q3), .second, .val (.int (0 : Int32)), .val (.long (0 : Int64)), .second, .val (.long (9218868437227405312 : Int64)), .second, .val (.ref w0), .unset, .unset, .unset, .unset, .unset, .unset] [(.long (1023 : Int64)), (.long q3)])) _
        refine XS.land X5.here hx rfl (hb hby at_39) rfl ?_
        show Steps p.tables e below (T5.setTop (mkF m 40 #[.val (.int p1), .val (.int p2), .val (.long q3), .second, .val (.int (0 : Int32)), .val (.long (0 : Int64)), .second, .val (.long (9218868437227405312 : Int64)), .second, .val (.ref w0), .unset, .unset, .unset, .unset, .unset, .unset] [(.long (q3 &&& (1023 : Int64)))])) _
        refine XS.lstore X5.here hx rfl (hb hby at_40) rfl (l' := #[.val (.int p1), .val (.int p2), .val (.long q3), .second, .val (.int (0 : Int32)), .val (.long (0 : Int64)), .second, .val (.long (9218868437227405312 : Int64)), .second, .val (.ref w0), .val (.long (q3 &&& (1023 : Int64))), .second, .unset, .unset, .unset, .unset]) rfl ?_
        show Steps p.tables e below (T5.setTop (mkF m 42 #[.val (.int p1), .val (.int p2), .val (.long q3), .second, .val (.int (0 : Int32)), .val (.long (0 : Int64)), .second, .val (.long (9218868437227405312 : Int64)), .second, .val (.ref w0), .val (.long (q3 &&& (1023 : Int64))), .second, .unset, .unset, .unset, .unset] [])) _
        exact kt
      obtain ⟨fr, hfr⟩ : ∃ z, z = (q3 &&& (1023 : Int64)) := ⟨_, rfl⟩
      rw [← hfr] at pre6
      have hm := c_maskL q3 (1023 : Int64) 10 (by decide) (by decide)
      rw [← hfr] at hm
      have hf0 : 0 ≤ fr.toInt := by omega
      have hf1 : fr.toInt < 1024 := by omega
      have pre7 : ∀ t, Steps p.tables e below (T5.setTop (mkF m 57 #[.val (.int p1), .val (.int p2), .val (.long q3), .second, .val (.int (0 : Int32)), .val (.long (0 : Int64)), .second, .val (.long (9218868437227405312 : Int64)), .second, .val (.ref w0), .val (.long fr), .second, .val (.long ((9218868437227405312 : Int64) ||| (fr <<< ((42 : Int32) &&& 0x3f).toInt64))), .second, .unset, .unset] [(.long ((0 : Int64) <<< ((15 : Int32) &&& 0x3f).toInt64))])) t → Steps p.tables e below (s₁.setTop (entryFrame m #[(.int p1), (.int p2), (.long q3)] maxLocals)) t := fun t kt => by
        refine pre6 _ ?_
        show Steps p.tables e below (T5.setTop (mkF m 42 #[.val (.int p1), .val (.int p2), .val (.long q3), .second, .val (.int (0 : Int32)), .val (.long (0 : Int64)), .second, .val (.long (9218868437227405312 : Int64)), .second, .val (.ref w0), .val (.long fr), .second, .unset, .unset, .unset, .unset] [])) _
        refine XS.lload X5.here hx rfl (hb hby at_42) rfl ?_
        show Steps p.tables e below (T5.setTop (mkF m 44 #[.val (.int p1), .val (.int p2), .val (.long q3), .second, .val (.int (0 : Int32)), .val (.long (0 : Int64)), .second, .val (.long (9218868437227405312 : Int64)), .second, .val (.ref w0), .val (.long fr), .second, .unset, .unset, .unset, .unset] [(.long (9218868437227405312 : Int64))])) _
        refine XS.lload X5.here hx rfl (hb hby at_44) rfl ?_
        show Steps p.tables e below (T5.setTop (mkF m 46 #[.val (.int p1), .val (.int p2), .val (.long q3), .second, .val (.int (0 : Int32)), .val (.long (0 : Int64)), .second, .val (.long (9218868437227405312 : Int64)), .second, .val (.ref w0), .val (.long fr), .second, .unset, .unset, .unset, .unset] [(.long fr), (.long (9218868437227405312 : Int64))])) _
        refine XS.bipush X5.here hx rfl (hb hby at_46) ?_
        show Steps p.tables e below (T5.setTop (mkF m 48 #[.val (.int p1), .val (.int p2), .val (.long q3), .second, .val (.int (0 : Int32)), .val (.long (0 : Int64)), .second, .val (.long (9218868437227405312 : Int64)), .second, .val (.ref w0), .val (.long fr), .second, .unset, .unset, .unset, .unset] [(.int (42 : Int32)), (.long fr), (.long (9218868437227405312 : Int64))])) _
        refine XS.lshl X5.here hx rfl (hb hby at_48) rfl ?_
        show Steps p.tables e below (T5.setTop (mkF m 49 #[.val (.int p1), .val (.int p2), .val (.long q3), .second, .val (.int (0 : Int32)), .val (.long (0 : Int64)), .second, .val (.long (9218868437227405312 : Int64)), .second, .val (.ref w0), .val (.long fr), .second, .unset, .unset, .unset, .unset] [(.long (fr <<< ((42 : Int32) &&& 0x3f).toInt64)), (.long (9218868437227405312 : Int64))])) _
        refine XS.lor X5.here hx rfl (hb hby at_49) rfl ?_
        show Steps p.tables e below (T5.setTop (mkF m 50 #[.val (.int p1), .val (.int p2), .val (.long q3), .second, .val (.int (0 : Int32)), .val (.long (0 : Int64)), .second, .val (.long (9218868437227405312 : Int64)), .second, .val (.ref w0), .val (.long fr), .second, .unset, .unset, .unset, .unset] [(.long ((9218868437227405312 : Int64) ||| (fr <<< ((42 : Int32) &&& 0x3f).toInt64)))])) _
        refine XS.lstore X5.here hx rfl (hb hby at_50) rfl (l' := #[.val (.int p1), .val (.int p2), .val (.long q3), .second, .val (.int (0 : Int32)), .val (.long (0 : Int64)), .second, .val (.long (9218868437227405312 : Int64)), .second, .val (.ref w0), .val (.long fr), .second, .val (.long ((9218868437227405312 : Int64) ||| (fr <<< ((42 : Int32) &&& 0x3f).toInt64))), .second, .unset, .unset]) rfl ?_
        show Steps p.tables e below (T5.setTop (mkF m 52 #[.val (.int p1), .val (.int p2), .val (.long q3), .second, .val (.int (0 : Int32)), .val (.long (0 : Int64)), .second, .val (.long (9218868437227405312 : Int64)), .second, .val (.ref w0), .val (.long fr), .second, .val (.long ((9218868437227405312 : Int64) ||| (fr <<< ((42 : Int32) &&& 0x3f).toInt64))), .second, .unset, .unset] [])) _
        refine XS.lload X5.here hx rfl (hb hby at_52) rfl ?_
        show Steps p.tables e below (T5.setTop (mkF m 54 #[.val (.int p1), .val (.int p2), .val (.long q3), .second, .val (.int (0 : Int32)), .val (.long (0 : Int64)), .second, .val (.long (9218868437227405312 : Int64)), .second, .val (.ref w0), .val (.long fr), .second, .val (.long ((9218868437227405312 : Int64) ||| (fr <<< ((42 : Int32) &&& 0x3f).toInt64))), .second, .unset, .unset] [(.long (0 : Int64))])) _
        refine XS.bipush X5.here hx rfl (hb hby at_54) ?_
        show Steps p.tables e below (T5.setTop (mkF m 56 #[.val (.int p1), .val (.int p2), .val (.long q3), .second, .val (.int (0 : Int32)), .val (.long (0 : Int64)), .second, .val (.long (9218868437227405312 : Int64)), .second, .val (.ref w0), .val (.long fr), .second, .val (.long ((9218868437227405312 : Int64) ||| (fr <<< ((42 : Int32) &&& 0x3f).toInt64))), .second, .unset, .unset] [(.int (15 : Int32)), (.long (0 : Int64))])) _
        refine XS.lshl X5.here hx rfl (hb hby at_56) rfl ?_
        show Steps p.tables e below (T5.setTop (mkF m 57 #[.val (.int p1), .val (.int p2), .val (.long q3), .second, .val (.int (0 : Int32)), .val (.long (0 : Int64)), .second, .val (.long (9218868437227405312 : Int64)), .second, .val (.ref w0), .val (.long fr), .second, .val (.long ((9218868437227405312 : Int64) ||| (fr <<< ((42 : Int32) &&& 0x3f).toInt64))), .second, .unset, .unset] [(.long ((0 : Int64) <<< ((15 : Int32) &&& 0x3f).toInt64))])) _
        exact kt
      rw [show ((0 : Int64) <<< ((15 : Int32) &&& 0x3f).toInt64) = (0 : Int64) from by decide +kernel] at pre7
      have pre8 : ∀ t, Steps p.tables e below (T5.setTop (mkF m 61 #[.val (.int p1), .val (.int p2), .val (.long q3), .second, .val (.int (0 : Int32)), .val (.long (0 : Int64)), .second, .val (.long (9218868437227405312 : Int64)), .second, .val (.ref w0), .val (.long fr), .second, .val (.long ((9218868437227405312 : Int64) ||| (fr <<< ((42 : Int32) &&& 0x3f).toInt64))), .second, .unset, .unset] [(.long ((0 : Int64) ||| (31744 : Int64)))])) t → Steps p.tables e below (s₁.setTop (entryFrame m #[(.int p1), (.int p2), (.long q3)] maxLocals)) t := fun t kt => by
        refine pre7 _ ?_
        show Steps p.tables e below (T5.setTop (mkF m 57 #[.val (.int p1), .val (.int p2), .val (.long q3), .second, .val (.int (0 : Int32)), .val (.long (0 : Int64)), .second, .val (.long (9218868437227405312 : Int64)), .second, .val (.ref w0), .val (.long fr), .second, .val (.long ((9218868437227405312 : Int64) ||| (fr <<< ((42 : Int32) &&& 0x3f).toInt64))), .second, .unset, .unset] [(.long (0 : Int64))])) _
        refine X5.ldc2Long hx hown (mvT hZ (hw _ (List.mem_of_getElem? (i := 6) rfl))) (g := (mkF m 57 #[.val (.int p1), .val (.int p2), .val (.long q3), .second, .val (.int (0 : Int32)), .val (.long (0 : Int64)), .second, .val (.long (9218868437227405312 : Int64)), .second, .val (.ref w0), .val (.long fr), .second, .val (.long ((9218868437227405312 : Int64) ||| (fr <<< ((42 : Int32) &&& 0x3f).toInt64))), .second, .unset, .unset] [(.long (0 : Int64))])) rfl (hb hby at_57) _ ?_
        show Steps p.tables e below (T5.setTop (mkF m 60 #[.val (.int p1), .val (.int p2), .val (.long q3), .second, .val (.int (0 : Int32)), .val (.long (0 : Int64)), .second, .val (.long (9218868437227405312 : Int64)), .second, .val (.ref w0), .val (.long fr), .second, .val (.long ((9218868437227405312 : Int64) ||| (fr <<< ((42 : Int32) &&& 0x3f).toInt64))), .second, .unset, .unset] [(.long (31744 : Int64)), (.long (0 : Int64))])) _
        refine XS.lor X5.here hx rfl (hb hby at_60) rfl ?_
        show Steps p.tables e below (T5.setTop (mkF m 61 #[.val (.int p1), .val (.int p2), .val (.long q3), .second, .val (.int (0 : Int32)), .val (.long (0 : Int64)), .second, .val (.long (9218868437227405312 : Int64)), .second, .val (.ref w0), .val (.long fr), .second, .val (.long ((9218868437227405312 : Int64) ||| (fr <<< ((42 : Int32) &&& 0x3f).toInt64))), .second, .unset, .unset] [(.long ((0 : Int64) ||| (31744 : Int64)))])) _
        exact kt
      rw [show ((0 : Int64) ||| (31744 : Int64)) = (31744 : Int64) from by decide +kernel] at pre8
      have pre9 : ∀ t, Steps p.tables e below (T5.setTop (mkF m 141 #[.val (.int p1), .val (.int p2), .val (.long q3), .second, .val (.int (0 : Int32)), .val (.long (0 : Int64)), .second, .val (.long (9218868437227405312 : Int64)), .second, .val (.ref w0), .val (.long fr), .second, .val (.long ((9218868437227405312 : Int64) ||| (fr <<< ((42 : Int32) &&& 0x3f).toInt64))), .second, .val (.long ((31744 : Int64) ||| fr)), .second] [(.int (lcmpW fr (0 : Int64)))])) t → Steps p.tables e below (s₁.setTop (entryFrame m #[(.int p1), (.int p2), (.long q3)] maxLocals)) t := fun t kt => by
        refine pre8 _ ?_
        show Steps p.tables e below (T5.setTop (mkF m 61 #[.val (.int p1), .val (.int p2), .val (.long q3), .second, .val (.int (0 : Int32)), .val (.long (0 : Int64)), .second, .val (.long (9218868437227405312 : Int64)), .second, .val (.ref w0), .val (.long fr), .second, .val (.long ((9218868437227405312 : Int64) ||| (fr <<< ((42 : Int32) &&& 0x3f).toInt64))), .second, .unset, .unset] [(.long (31744 : Int64))])) _
        refine XS.lload X5.here hx rfl (hb hby at_61) rfl ?_
        show Steps p.tables e below (T5.setTop (mkF m 63 #[.val (.int p1), .val (.int p2), .val (.long q3), .second, .val (.int (0 : Int32)), .val (.long (0 : Int64)), .second, .val (.long (9218868437227405312 : Int64)), .second, .val (.ref w0), .val (.long fr), .second, .val (.long ((9218868437227405312 : Int64) ||| (fr <<< ((42 : Int32) &&& 0x3f).toInt64))), .second, .unset, .unset] [(.long fr), (.long (31744 : Int64))])) _
        refine XS.lor X5.here hx rfl (hb hby at_63) rfl ?_
        show Steps p.tables e below (T5.setTop (mkF m 64 #[.val (.int p1), .val (.int p2), .val (.long q3), .second, .val (.int (0 : Int32)), .val (.long (0 : Int64)), .second, .val (.long (9218868437227405312 : Int64)), .second, .val (.ref w0), .val (.long fr), .second, .val (.long ((9218868437227405312 : Int64) ||| (fr <<< ((42 : Int32) &&& 0x3f).toInt64))), .second, .unset, .unset] [(.long ((31744 : Int64) ||| fr))])) _
        refine XS.lstore X5.here hx rfl (hb hby at_64) rfl (l' := #[.val (.int p1), .val (.int p2), .val (.long q3), .second, .val (.int (0 : Int32)), .val (.long (0 : Int64)), .second, .val (.long (9218868437227405312 : Int64)), .second, .val (.ref w0), .val (.long fr), .second, .val (.long ((9218868437227405312 : Int64) ||| (fr <<< ((42 : Int32) &&& 0x3f).toInt64))), .second, .val (.long ((31744 : Int64) ||| fr)), .second]) rfl ?_
        show Steps p.tables e below (T5.setTop (mkF m 66 #[.val (.int p1), .val (.int p2), .val (.long q3), .second, .val (.int (0 : Int32)), .val (.long (0 : Int64)), .second, .val (.long (9218868437227405312 : Int64)), .second, .val (.ref w0), .val (.long fr), .second, .val (.long ((9218868437227405312 : Int64) ||| (fr <<< ((42 : Int32) &&& 0x3f).toInt64))), .second, .val (.long ((31744 : Int64) ||| fr)), .second] [])) _
        refine XS.goto X5.here hx rfl (pc0 := 66) (pc' := 137) rfl (hb hby at_66) (by decide) (by decide) ?_
        show Steps p.tables e below (T5.setTop (mkF m 137 #[.val (.int p1), .val (.int p2), .val (.long q3), .second, .val (.int (0 : Int32)), .val (.long (0 : Int64)), .second, .val (.long (9218868437227405312 : Int64)), .second, .val (.ref w0), .val (.long fr), .second, .val (.long ((9218868437227405312 : Int64) ||| (fr <<< ((42 : Int32) &&& 0x3f).toInt64))), .second, .val (.long ((31744 : Int64) ||| fr)), .second] [])) _
        refine XS.lload X5.here hx rfl (hb hby at_137) rfl ?_
        show Steps p.tables e below (T5.setTop (mkF m 139 #[.val (.int p1), .val (.int p2), .val (.long q3), .second, .val (.int (0 : Int32)), .val (.long (0 : Int64)), .second, .val (.long (9218868437227405312 : Int64)), .second, .val (.ref w0), .val (.long fr), .second, .val (.long ((9218868437227405312 : Int64) ||| (fr <<< ((42 : Int32) &&& 0x3f).toInt64))), .second, .val (.long ((31744 : Int64) ||| fr)), .second] [(.long fr)])) _
        refine XS.lconst X5.here hx rfl (hb hby at_139) ?_
        show Steps p.tables e below (T5.setTop (mkF m 140 #[.val (.int p1), .val (.int p2), .val (.long q3), .second, .val (.int (0 : Int32)), .val (.long (0 : Int64)), .second, .val (.long (9218868437227405312 : Int64)), .second, .val (.ref w0), .val (.long fr), .second, .val (.long ((9218868437227405312 : Int64) ||| (fr <<< ((42 : Int32) &&& 0x3f).toInt64))), .second, .val (.long ((31744 : Int64) ||| fr)), .second] [(.long (0 : Int64)), (.long fr)])) _
        refine XS.lcmp X5.here hx rfl (hb hby at_140) rfl ?_
        show Steps p.tables e below (T5.setTop (mkF m 141 #[.val (.int p1), .val (.int p2), .val (.long q3), .second, .val (.int (0 : Int32)), .val (.long (0 : Int64)), .second, .val (.long (9218868437227405312 : Int64)), .second, .val (.ref w0), .val (.long fr), .second, .val (.long ((9218868437227405312 : Int64) ||| (fr <<< ((42 : Int32) &&& 0x3f).toInt64))), .second, .val (.long ((31744 : Int64) ||| fr)), .second] [(.int (lcmpW fr (0 : Int64)))])) _
        exact kt
      rcases Decidable.em ((lcmpW fr (0 : Int64)) = (0 : Int32)) with hc141_10 | hc141_10
      ·
        obtain ⟨fs, hr, hrun, hended, hW, hsame⟩ := X5.leave (v := some (.int (1 : Int32))) (fun h => by rw [Bd.returns] at h; cases h)
        refine ⟨_, _, pre9 _ ?_, hrun, hended, _, _, rfl, ?_, ⟨_, rfl⟩, hW, hsame.mono (by decide) (by decide)⟩
        ·
          show Steps p.tables e below (T5.setTop (mkF m 141 #[.val (.int p1), .val (.int p2), .val (.long q3), .second, .val (.int (0 : Int32)), .val (.long (0 : Int64)), .second, .val (.long (9218868437227405312 : Int64)), .second, .val (.ref w0), .val (.long fr), .second, .val (.long ((9218868437227405312 : Int64) ||| (fr <<< ((42 : Int32) &&& 0x3f).toInt64))), .second, .val (.long ((31744 : Int64) ||| fr)), .second] [(.int (lcmpW fr (0 : Int64)))])) _
          refine XS.ifNo X5.here hx rfl (hb hby at_141) rfl ((if0 _ _).trans (teq hc141_10).2) ?_
          show Steps p.tables e below (T5.setTop (mkF m 144 #[.val (.int p1), .val (.int p2), .val (.long q3), .second, .val (.int (0 : Int32)), .val (.long (0 : Int64)), .second, .val (.long (9218868437227405312 : Int64)), .second, .val (.ref w0), .val (.long fr), .second, .val (.long ((9218868437227405312 : Int64) ||| (fr <<< ((42 : Int32) &&& 0x3f).toInt64))), .second, .val (.long ((31744 : Int64) ||| fr)), .second] [])) _
          refine XS.iconst X5.here hx rfl (hb hby at_144) ?_
          show Steps p.tables e below (T5.setTop (mkF m 145 #[.val (.int p1), .val (.int p2), .val (.long q3), .second, .val (.int (0 : Int32)), .val (.long (0 : Int64)), .second, .val (.long (9218868437227405312 : Int64)), .second, .val (.ref w0), .val (.long fr), .second, .val (.long ((9218868437227405312 : Int64) ||| (fr <<< ((42 : Int32) &&& 0x3f).toInt64))), .second, .val (.long ((31744 : Int64) ||| fr)), .second] [(.int (1 : Int32))])) _
          exact retN X5 hx (t := .boolean) Bd.returns (by simp) (hb hby at_145) hr
        ·
          show Q_rm0 Z p1 p2 q3 w0 w1 w2 h0 n0 (_) T5.heap (_)
          rw [e5]
          exact ⟨rfl, N0⟩
      ·
        obtain ⟨cq11, kq11, q11a, q11b, q11c⟩ := isOf hZ e5 E0
        obtain ⟨_, _, ⟨T11, L11, k11, n11⟩, -, X11, ⟨Lc11, hQ11, l11, y11, z11⟩, st11⟩ := X5.virtualBack hx (y := (⟨"com/example/chronotag/chronotag/codec/FloatFormat", "narrowNaN", "(J)J"⟩ : MethodName)) (z := (⟨"com/example/chronotag/chronotag/codec/FloatFormat", "narrowNaN", "(J)J"⟩ : MethodName)) hown (mvT hZ (hw _ (List.mem_of_getElem? (i := 7) rfl))) (mvT hZ (hw _ (List.mem_of_getElem? (i := 8) rfl))) (notFace_of_selects (args := #[]) (mvT hZ (hw _ (List.mem_of_getElem? (i := 10) rfl)))) (mvT hZ (hw _ (List.mem_of_getElem? (i := 10) rfl))) (mvT hZ (hw _ (List.mem_of_getElem? (i := 9) rfl))) (by decide) (backOf (W := 0) (rmF0 l Z a0 hw [] w0 ((9218868437227405312 : Int64) ||| (fr <<< ((42 : Int32) &&& 0x3f).toInt64)) h0 n0 Z0 F0w F0f) hZ (hw _ (List.mem_of_getElem? (i := 11) rfl)) (hw _ (List.mem_of_getElem? (i := 3) rfl)) (by decide) (by decide)) q11a q11c (g := (mkF m 150 #[.val (.int p1), .val (.int p2), .val (.long q3), .second, .val (.int (0 : Int32)), .val (.long (0 : Int64)), .second, .val (.long (9218868437227405312 : Int64)), .second, .val (.ref w0), .val (.long fr), .second, .val (.long ((9218868437227405312 : Int64) ||| (fr <<< ((42 : Int32) &&& 0x3f).toInt64))), .second, .val (.long ((31744 : Int64) ||| fr)), .second] [(.long ((9218868437227405312 : Int64) ||| (fr <<< ((42 : Int32) &&& 0x3f).toInt64))), (.ref w0)])) rfl (by rw [hml]; rfl) (Steps.refl _) (argsL := [(.long ((9218868437227405312 : Int64) ||| (fr <<< ((42 : Int32) &&& 0x3f).toInt64)))]) (rest := []) (lenOf own_pd0 rfl) rfl (by show 2 * 0 + _ ≤ _; exact Nat.le_of_eq rfl) (hb hby at_150) (fun _ _ => ⟨rfl, e5, (by decide : 0 + 0 ≤ _), (by decide : 0 + 0 ≤ _)⟩)
        dsimp only [Pt.U, Pt.locs, Pt.cells, Pt.slots] at X11 l11 y11 z11 st11 hQ11
        subst l11 y11 z11
        obtain ⟨rfl, N11q, eq11⟩ := hQ11
        have N11 := Fr.app N0 N11q
        obtain ⟨fs, hr, hrun, hended, hW, hsame⟩ := X11.leave (v := some (.int (1 : Int32))) (fun h => by rw [Bd.returns] at h; cases h)
        refine ⟨_, _, pre9 _ ?_, hrun, hended, _, _, rfl, ?_, ⟨_, rfl⟩, hW, hsame.mono (by decide) (by decide)⟩
        ·
          show Steps p.tables e below (T5.setTop (mkF m 141 #[.val (.int p1), .val (.int p2), .val (.long q3), .second, .val (.int (0 : Int32)), .val (.long (0 : Int64)), .second, .val (.long (9218868437227405312 : Int64)), .second, .val (.ref w0), .val (.long fr), .second, .val (.long ((9218868437227405312 : Int64) ||| (fr <<< ((42 : Int32) &&& 0x3f).toInt64))), .second, .val (.long ((31744 : Int64) ||| fr)), .second] [(.int (lcmpW fr (0 : Int64)))])) _
          refine XS.ifYes X5.here hx rfl (pc0 := 141) (pc' := 146) rfl (hb hby at_141) rfl ((if0 _ _).trans (feq hc141_10).2) (by decide) (by decide) ?_
          show Steps p.tables e below (T5.setTop (mkF m 146 #[.val (.int p1), .val (.int p2), .val (.long q3), .second, .val (.int (0 : Int32)), .val (.long (0 : Int64)), .second, .val (.long (9218868437227405312 : Int64)), .second, .val (.ref w0), .val (.long fr), .second, .val (.long ((9218868437227405312 : Int64) ||| (fr <<< ((42 : Int32) &&& 0x3f).toInt64))), .second, .val (.long ((31744 : Int64) ||| fr)), .second] [])) _
          refine XS.aload X5.here hx rfl (hb hby at_146) rfl rfl ?_
          show Steps p.tables e below (T5.setTop (mkF m 148 #[.val (.int p1), .val (.int p2), .val (.long q3), .second, .val (.int (0 : Int32)), .val (.long (0 : Int64)), .second, .val (.long (9218868437227405312 : Int64)), .second, .val (.ref w0), .val (.long fr), .second, .val (.long ((9218868437227405312 : Int64) ||| (fr <<< ((42 : Int32) &&& 0x3f).toInt64))), .second, .val (.long ((31744 : Int64) ||| fr)), .second] [(.ref w0)])) _
          refine XS.lload X5.here hx rfl (hb hby at_148) rfl ?_
          show Steps p.tables e below (T5.setTop (mkF m 150 #[.val (.int p1), .val (.int p2), .val (.long q3), .second, .val (.int (0 : Int32)), .val (.long (0 : Int64)), .second, .val (.long (9218868437227405312 : Int64)), .second, .val (.ref w0), .val (.long fr), .second, .val (.long ((9218868437227405312 : Int64) ||| (fr <<< ((42 : Int32) &&& 0x3f).toInt64))), .second, .val (.long ((31744 : Int64) ||| fr)), .second] [(.long ((9218868437227405312 : Int64) ||| (fr <<< ((42 : Int32) &&& 0x3f).toInt64))), (.ref w0)])) _
          refine st11.trans ?_
          show Steps p.tables e below (T11.setTop (mkF m 153 #[.val (.int p1), .val (.int p2), .val (.long q3), .second, .val (.int (0 : Int32)), .val (.long (0 : Int64)), .second, .val (.long (9218868437227405312 : Int64)), .second, .val (.ref w0), .val (.long fr), .second, .val (.long ((9218868437227405312 : Int64) ||| (fr <<< ((42 : Int32) &&& 0x3f).toInt64))), .second, .val (.long ((31744 : Int64) ||| fr)), .second] [(.long (((((((9218868437227405312 : Int64) ||| (fr <<< ((42 : Int32) &&& 0x3f).toInt64)).toUInt64 >>> ((63 : Int32) &&& 0x3f).toInt64.toUInt64).toInt64) <<< ((15 : Int32) &&& 0x3f).toInt64) ||| (31744 : Int64)) ||| (((((9218868437227405312 : Int64) ||| (fr <<< ((42 : Int32) &&& 0x3f).toInt64)) &&& (4503599627370495 : Int64)).toUInt64 >>> ((42 : Int32) &&& 0x3f).toInt64.toUInt64).toInt64)))])) _
          refine XS.lload X11.here hx rfl (hb hby at_153) rfl ?_
          show Steps p.tables e below (T11.setTop (mkF m 155 #[.val (.int p1), .val (.int p2), .val (.long q3), .second, .val (.int (0 : Int32)), .val (.long (0 : Int64)), .second, .val (.long (9218868437227405312 : Int64)), .second, .val (.ref w0), .val (.long fr), .second, .val (.long ((9218868437227405312 : Int64) ||| (fr <<< ((42 : Int32) &&& 0x3f).toInt64))), .second, .val (.long ((31744 : Int64) ||| fr)), .second] [(.long ((31744 : Int64) ||| fr)), (.long (((((((9218868437227405312 : Int64) ||| (fr <<< ((42 : Int32) &&& 0x3f).toInt64)).toUInt64 >>> ((63 : Int32) &&& 0x3f).toInt64.toUInt64).toInt64) <<< ((15 : Int32) &&& 0x3f).toInt64) ||| (31744 : Int64)) ||| (((((9218868437227405312 : Int64) ||| (fr <<< ((42 : Int32) &&& 0x3f).toInt64)) &&& (4503599627370495 : Int64)).toUInt64 >>> ((42 : Int32) &&& 0x3f).toInt64.toUInt64).toInt64)))])) _
          refine XS.lcmp X11.here hx rfl (hb hby at_155) rfl ?_
          show Steps p.tables e below (T11.setTop (mkF m 156 #[.val (.int p1), .val (.int p2), .val (.long q3), .second, .val (.int (0 : Int32)), .val (.long (0 : Int64)), .second, .val (.long (9218868437227405312 : Int64)), .second, .val (.ref w0), .val (.long fr), .second, .val (.long ((9218868437227405312 : Int64) ||| (fr <<< ((42 : Int32) &&& 0x3f).toInt64))), .second, .val (.long ((31744 : Int64) ||| fr)), .second] [(.int (lcmpW (((((((9218868437227405312 : Int64) ||| (fr <<< ((42 : Int32) &&& 0x3f).toInt64)).toUInt64 >>> ((63 : Int32) &&& 0x3f).toInt64.toUInt64).toInt64) <<< ((15 : Int32) &&& 0x3f).toInt64) ||| (31744 : Int64)) ||| (((((9218868437227405312 : Int64) ||| (fr <<< ((42 : Int32) &&& 0x3f).toInt64)) &&& (4503599627370495 : Int64)).toUInt64 >>> ((42 : Int32) &&& 0x3f).toInt64.toUInt64).toInt64)) ((31744 : Int64) ||| fr)))])) _
          refine XS.ifNo X11.here hx rfl (hb hby at_156) rfl ((if0 _ _).trans (teq ((lw_eq _ _).mpr (own_n_0_0 fr hf0 hf1))).2) ?_
          show Steps p.tables e below (T11.setTop (mkF m 159 #[.val (.int p1), .val (.int p2), .val (.long q3), .second, .val (.int (0 : Int32)), .val (.long (0 : Int64)), .second, .val (.long (9218868437227405312 : Int64)), .second, .val (.ref w0), .val (.long fr), .second, .val (.long ((9218868437227405312 : Int64) ||| (fr <<< ((42 : Int32) &&& 0x3f).toInt64))), .second, .val (.long ((31744 : Int64) ||| fr)), .second] [])) _
          refine XS.iconst X11.here hx rfl (hb hby at_159) ?_
          show Steps p.tables e below (T11.setTop (mkF m 160 #[.val (.int p1), .val (.int p2), .val (.long q3), .second, .val (.int (0 : Int32)), .val (.long (0 : Int64)), .second, .val (.long (9218868437227405312 : Int64)), .second, .val (.ref w0), .val (.long fr), .second, .val (.long ((9218868437227405312 : Int64) ||| (fr <<< ((42 : Int32) &&& 0x3f).toInt64))), .second, .val (.long ((31744 : Int64) ||| fr)), .second] [(.int (1 : Int32))])) _
          refine XS.goto X11.here hx rfl (pc0 := 160) (pc' := 164) rfl (hb hby at_160) (by decide) (by decide) ?_
          show Steps p.tables e below (T11.setTop (mkF m 164 #[.val (.int p1), .val (.int p2), .val (.long q3), .second, .val (.int (0 : Int32)), .val (.long (0 : Int64)), .second, .val (.long (9218868437227405312 : Int64)), .second, .val (.ref w0), .val (.long fr), .second, .val (.long ((9218868437227405312 : Int64) ||| (fr <<< ((42 : Int32) &&& 0x3f).toInt64))), .second, .val (.long ((31744 : Int64) ||| fr)), .second] [(.int (1 : Int32))])) _
          exact retN X11 hx (t := .boolean) Bd.returns (by simp) (hb hby at_164) hr
        ·
          show Q_rm0 Z p1 p2 q3 w0 w1 w2 h0 n0 (_) T11.heap (_)
          rw [eq11]
          exact ⟨rfl, N11⟩
    ·
      rw [hs1] at pre2
      have pre12 : ∀ t, Steps p.tables e below (s₁.setTop (mkF m 19 #[.val (.int p1), .val (.int p2), .val (.long q3), .second, .val (.int (0 : Int32)), .val (.long (1 : Int64)), .second, .unset, .unset, .unset, .unset, .unset, .unset, .unset, .unset, .unset] [(.long ((1 : Int64) <<< ((63 : Int32) &&& 0x3f).toInt64))])) t → Steps p.tables e below (s₁.setTop (entryFrame m #[(.int p1), (.int p2), (.long q3)] maxLocals)) t := fun t kt => by
        refine pre2 _ ?_
        show Steps p.tables e below (s₁.setTop (mkF m 14 #[.val (.int p1), .val (.int p2), .val (.long q3), .second, .val (.int (0 : Int32)), .val (.long (1 : Int64)), .second, .unset, .unset, .unset, .unset, .unset, .unset, .unset, .unset, .unset] [])) _
        refine XS.lload X0.here hx rfl (hb hby at_14) rfl ?_
        show Steps p.tables e below (s₁.setTop (mkF m 16 #[.val (.int p1), .val (.int p2), .val (.long q3), .second, .val (.int (0 : Int32)), .val (.long (1 : Int64)), .second, .unset, .unset, .unset, .unset, .unset, .unset, .unset, .unset, .unset] [(.long (1 : Int64))])) _
        refine XS.bipush X0.here hx rfl (hb hby at_16) ?_
        show Steps p.tables e below (s₁.setTop (mkF m 18 #[.val (.int p1), .val (.int p2), .val (.long q3), .second, .val (.int (0 : Int32)), .val (.long (1 : Int64)), .second, .unset, .unset, .unset, .unset, .unset, .unset, .unset, .unset, .unset] [(.int (63 : Int32)), (.long (1 : Int64))])) _
        refine XS.lshl X0.here hx rfl (hb hby at_18) rfl ?_
        show Steps p.tables e below (s₁.setTop (mkF m 19 #[.val (.int p1), .val (.int p2), .val (.long q3), .second, .val (.int (0 : Int32)), .val (.long (1 : Int64)), .second, .unset, .unset, .unset, .unset, .unset, .unset, .unset, .unset, .unset] [(.long ((1 : Int64) <<< ((63 : Int32) &&& 0x3f).toInt64))])) _
        exact kt
      rw [show ((1 : Int64) <<< ((63 : Int32) &&& 0x3f).toInt64) = (-9223372036854775808 : Int64) from by decide +kernel] at pre12
      have pre13 : ∀ t, Steps p.tables e below (s₁.setTop (mkF m 23 #[.val (.int p1), .val (.int p2), .val (.long q3), .second, .val (.int (0 : Int32)), .val (.long (1 : Int64)), .second, .unset, .unset, .unset, .unset, .unset, .unset, .unset, .unset, .unset] [(.long ((-9223372036854775808 : Int64) ||| (9218868437227405312 : Int64)))])) t → Steps p.tables e below (s₁.setTop (entryFrame m #[(.int p1), (.int p2), (.long q3)] maxLocals)) t := fun t kt => by
        refine pre12 _ ?_
        show Steps p.tables e below (s₁.setTop (mkF m 19 #[.val (.int p1), .val (.int p2), .val (.long q3), .second, .val (.int (0 : Int32)), .val (.long (1 : Int64)), .second, .unset, .unset, .unset, .unset, .unset, .unset, .unset, .unset, .unset] [(.long (-9223372036854775808 : Int64))])) _
        refine X0.ldc2Long hx hown (mvT hZ (hw _ (List.mem_of_getElem? (i := 1) rfl))) (g := (mkF m 19 #[.val (.int p1), .val (.int p2), .val (.long q3), .second, .val (.int (0 : Int32)), .val (.long (1 : Int64)), .second, .unset, .unset, .unset, .unset, .unset, .unset, .unset, .unset, .unset] [(.long (-9223372036854775808 : Int64))])) rfl (hb hby at_19) _ ?_
        show Steps p.tables e below (s₁.setTop (mkF m 22 #[.val (.int p1), .val (.int p2), .val (.long q3), .second, .val (.int (0 : Int32)), .val (.long (1 : Int64)), .second, .unset, .unset, .unset, .unset, .unset, .unset, .unset, .unset, .unset] [(.long (9218868437227405312 : Int64)), (.long (-9223372036854775808 : Int64))])) _
        refine XS.lor X0.here hx rfl (hb hby at_22) rfl ?_
        show Steps p.tables e below (s₁.setTop (mkF m 23 #[.val (.int p1), .val (.int p2), .val (.long q3), .second, .val (.int (0 : Int32)), .val (.long (1 : Int64)), .second, .unset, .unset, .unset, .unset, .unset, .unset, .unset, .unset, .unset] [(.long ((-9223372036854775808 : Int64) ||| (9218868437227405312 : Int64)))])) _
        exact kt
      rw [show ((-9223372036854775808 : Int64) ||| (9218868437227405312 : Int64)) = (-4503599627370496 : Int64) from by decide +kernel] at pre13
      obtain ⟨T14, X14, e14, st14⟩ := getS2 X0 hx hZ hown (host := "") (Or.inl (hw _ (List.mem_of_getElem? (i := 2) rfl))) Via.refl e0 S0 (g := (mkF m 30 #[.val (.int p1), .val (.int p2), .val (.long q3), .second, .val (.int (0 : Int32)), .val (.long (1 : Int64)), .second, .val (.long (-4503599627370496 : Int64)), .second, .unset, .unset, .unset, .unset, .unset, .unset, .unset] [])) rfl (hb hby at_30)
      have pre15 : ∀ t, Steps p.tables e below (T14.setTop (mkF m 42 #[.val (.int p1), .val (.int p2), .val (.long q3), .second, .val (.int (0 : Int32)), .val (.long (1 : Int64)), .second, .val (.long (-4503599627370496 : Int64)), .second, .val (.ref w0), .val (.long (q3 &&& (1023 : Int64))), .second, .unset, .unset, .unset, .unset] [])) t → Steps p.tables e below (s₁.setTop (entryFrame m #[(.int p1), (.int p2), (.long q3)] maxLocals)) t := fun t kt => by
        refine pre13 _ ?_
        show Steps p.tables e below (s₁.setTop (mkF m 23 #[.val (.int p1), .val (.int p2), .val (.long q3), .second, .val (.int (0 : Int32)), .val (.long (1 : Int64)), .second, .unset, .unset, .unset, .unset, .unset, .unset, .unset, .unset, .unset] [(.long (-4503599627370496 : Int64))])) _
        refine XS.lstore X0.here hx rfl (hb hby at_23) rfl (l' := #[.val (.int p1), .val (.int p2), .val (.long q3), .second, .val (.int (0 : Int32)), .val (.long (1 : Int64)), .second, .val (.long (-4503599627370496 : Int64)), .second, .unset, .unset, .unset, .unset, .unset, .unset, .unset]) rfl ?_
        show Steps p.tables e below (s₁.setTop (mkF m 25 #[.val (.int p1), .val (.int p2), .val (.long q3), .second, .val (.int (0 : Int32)), .val (.long (1 : Int64)), .second, .val (.long (-4503599627370496 : Int64)), .second, .unset, .unset, .unset, .unset, .unset, .unset, .unset] [])) _
        refine XS.iload X0.here hx rfl (hb hby at_25) rfl ?_
        show Steps p.tables e below (s₁.setTop (mkF m 27 #[.val (.int p1), .val (.int p2), .val (.long q3), .second, .val (.int (0 : Int32)), .val (.long (1 : Int64)), .second, .val (.long (-4503599627370496 : Int64)), .second, .unset, .unset, .unset, .unset, .unset, .unset, .unset] [(.int (0 : Int32))])) _
        refine XS.ifNo X0.here hx rfl (hb hby at_27) rfl ((if0 _ _).trans (teq (by decide : (0 : Int32) = (0 : Int32))).2) ?_
        show Steps p.tables e below (s₁.setTop (mkF m 30 #[.val (.int p1), .val (.int p2), .val (.long q3), .second, .val (.int (0 : Int32)), .val (.long (1 : Int64)), .second, .val (.long (-4503599627370496 : Int64)), .second, .unset, .unset, .unset, .unset, .unset, .unset, .unset] [])) _
        refine st14 _ ?_
        show Steps p.tables e below (T14.setTop (mkF m 33 #[.val (.int p1), .val (.int p2), .val (.long q3), .second, .val (.int (0 : Int32)), .val (.long (1 : Int64)), .second, .val (.long (-4503599627370496 : Int64)), .second, .unset, .unset, .unset, .unset, .unset, .unset, .unset] [(.ref w0)])) _
        refine XS.astore X14.here hx rfl (hb hby at_33) rfl rfl (l' := #[.val (.int p1), .val (.int p2), .val (.long q3), .second, .val (.int (0 : Int32)), .val (.long (1 : Int64)), .second, .val (.long (-4503599627370496 : Int64)), .second, .val (.ref w0), .unset, .unset, .unset, .unset, .unset, .unset]) rfl ?_
        show Steps p.tables e below (T14.setTop (mkF m 35 #[.val (.int p1), .val (.int p2), .val (.long q3), .second, .val (.int (0 : Int32)), .val (.long (1 : Int64)), .second, .val (.long (-4503599627370496 : Int64)), .second, .val (.ref w0), .unset, .unset, .unset, .unset, .unset, .unset] [])) _
        refine XS.lloadN X14.here hx rfl (hb hby at_35) rfl ?_
        show Steps p.tables e below (T14.setTop (mkF m 36 #[.val (.int p1), .val (.int p2), .val (.long q3), .second, .val (.int (0 : Int32)), .val (.long (1 : Int64)), .second, .val (.long (-4503599627370496 : Int64)), .second, .val (.ref w0), .unset, .unset, .unset, .unset, .unset, .unset] [(.long q3)])) _
        refine X14.ldc2Long hx hown (mvT hZ (hw _ (List.mem_of_getElem? (i := 5) rfl))) (g := (mkF m 36 #[.val (.int p1), .val (.int p2), .val (.long q3), .second, .val (.int (0 : Int32)), .val (.long (1 : Int64)), .second, .val (.long (-4503599627370496 : Int64)), .second, .val (.ref w0), .unset, .unset, .unset, .unset, .unset, .unset] [(.long q3)])) rfl (hb hby at_36) _ ?_
        show Steps p.tables e below (T14.setTop (mkF m 39 #[.val (.int p1), .val (.int p2), .val (.long q3), .second, .val (.int (0 : Int32)), .val (.long (1 : Int64)), .second, .val (.long (-4503599627370496 : Int64)), .second, .val (.ref w0), .unset, .unset, .unset, .unset, .unset, .unset] [(.long (1023 : Int64)), (.long q3)])) _
        refine XS.land X14.here hx rfl (hb hby at_39) rfl ?_
        show Steps p.tables e below (T14.setTop (mkF m 40 #[.val (.int p1), .val (.int p2), .val (.long q3), .second, .val (.int (0 : Int32)), .val (.long (1 : Int64)), .second, .val (.long (-4503599627370496 : Int64)), .second, .val (.ref w0), .unset, .unset, .unset, .unset, .unset, .unset] [(.long (q3 &&& (1023 : Int64)))])) _
        refine XS.lstore X14.here hx rfl (hb hby at_40) rfl (l' := #[.val (.int p1), .val (.int p2), .val (.long q3), .second, .val (.int (0 : Int32)), .val (.long (1 : Int64)), .second, .val (.long (-4503599627370496 : Int64)), .second, .val (.ref w0), .val (.long (q3 &&& (1023 : Int64))), .second, .unset, .unset, .unset, .unset]) rfl ?_
        show Steps p.tables e below (T14.setTop (mkF m 42 #[.val (.int p1), .val (.int p2), .val (.long q3), .second, .val (.int (0 : Int32)), .val (.long (1 : Int64)), .second, .val (.long (-4503599627370496 : Int64)), .second, .val (.ref w0), .val (.long (q3 &&& (1023 : Int64))), .second, .unset, .unset, .unset, .unset] [])) _
        exact kt
      obtain ⟨fr, hfr⟩ : ∃ z, z = (q3 &&& (1023 : Int64)) := ⟨_, rfl⟩
      rw [← hfr] at pre15
      have hm := c_maskL q3 (1023 : Int64) 10 (by decide) (by decide)
      rw [← hfr] at hm
      have hf0 : 0 ≤ fr.toInt := by omega
      have hf1 : fr.toInt < 1024 := by omega
      have pre16 : ∀ t, Steps p.tables e below (T14.setTop (mkF m 57 #[.val (.int p1), .val (.int p2), .val (.long q3), .second, .val (.int (0 : Int32)), .val (.long (1 : Int64)), .second, .val (.long (-4503599627370496 : Int64)), .second, .val (.ref w0), .val (.long fr), .second, .val (.long ((-4503599627370496 : Int64) ||| (fr <<< ((42 : Int32) &&& 0x3f).toInt64))), .second, .unset, .unset] [(.long ((1 : Int64) <<< ((15 : Int32) &&& 0x3f).toInt64))])) t → Steps p.tables e below (s₁.setTop (entryFrame m #[(.int p1), (.int p2), (.long q3)] maxLocals)) t := fun t kt => by
        refine pre15 _ ?_
        show Steps p.tables e below (T14.setTop (mkF m 42 #[.val (.int p1), .val (.int p2), .val (.long q3), .second, .val (.int (0 : Int32)), .val (.long (1 : Int64)), .second, .val (.long (-4503599627370496 : Int64)), .second, .val (.ref w0), .val (.long fr), .second, .unset, .unset, .unset, .unset] [])) _
        refine XS.lload X14.here hx rfl (hb hby at_42) rfl ?_
        show Steps p.tables e below (T14.setTop (mkF m 44 #[.val (.int p1), .val (.int p2), .val (.long q3), .second, .val (.int (0 : Int32)), .val (.long (1 : Int64)), .second, .val (.long (-4503599627370496 : Int64)), .second, .val (.ref w0), .val (.long fr), .second, .unset, .unset, .unset, .unset] [(.long (-4503599627370496 : Int64))])) _
        refine XS.lload X14.here hx rfl (hb hby at_44) rfl ?_
        show Steps p.tables e below (T14.setTop (mkF m 46 #[.val (.int p1), .val (.int p2), .val (.long q3), .second, .val (.int (0 : Int32)), .val (.long (1 : Int64)), .second, .val (.long (-4503599627370496 : Int64)), .second, .val (.ref w0), .val (.long fr), .second, .unset, .unset, .unset, .unset] [(.long fr), (.long (-4503599627370496 : Int64))])) _
        refine XS.bipush X14.here hx rfl (hb hby at_46) ?_
        show Steps p.tables e below (T14.setTop (mkF m 48 #[.val (.int p1), .val (.int p2), .val (.long q3), .second, .val (.int (0 : Int32)), .val (.long (1 : Int64)), .second, .val (.long (-4503599627370496 : Int64)), .second, .val (.ref w0), .val (.long fr), .second, .unset, .unset, .unset, .unset] [(.int (42 : Int32)), (.long fr), (.long (-4503599627370496 : Int64))])) _
        refine XS.lshl X14.here hx rfl (hb hby at_48) rfl ?_
        show Steps p.tables e below (T14.setTop (mkF m 49 #[.val (.int p1), .val (.int p2), .val (.long q3), .second, .val (.int (0 : Int32)), .val (.long (1 : Int64)), .second, .val (.long (-4503599627370496 : Int64)), .second, .val (.ref w0), .val (.long fr), .second, .unset, .unset, .unset, .unset] [(.long (fr <<< ((42 : Int32) &&& 0x3f).toInt64)), (.long (-4503599627370496 : Int64))])) _
        refine XS.lor X14.here hx rfl (hb hby at_49) rfl ?_
        show Steps p.tables e below (T14.setTop (mkF m 50 #[.val (.int p1), .val (.int p2), .val (.long q3), .second, .val (.int (0 : Int32)), .val (.long (1 : Int64)), .second, .val (.long (-4503599627370496 : Int64)), .second, .val (.ref w0), .val (.long fr), .second, .unset, .unset, .unset, .unset] [(.long ((-4503599627370496 : Int64) ||| (fr <<< ((42 : Int32) &&& 0x3f).toInt64)))])) _
        refine XS.lstore X14.here hx rfl (hb hby at_50) rfl (l' := #[.val (.int p1), .val (.int p2), .val (.long q3), .second, .val (.int (0 : Int32)), .val (.long (1 : Int64)), .second, .val (.long (-4503599627370496 : Int64)), .second, .val (.ref w0), .val (.long fr), .second, .val (.long ((-4503599627370496 : Int64) ||| (fr <<< ((42 : Int32) &&& 0x3f).toInt64))), .second, .unset, .unset]) rfl ?_
        show Steps p.tables e below (T14.setTop (mkF m 52 #[.val (.int p1), .val (.int p2), .val (.long q3), .second, .val (.int (0 : Int32)), .val (.long (1 : Int64)), .second, .val (.long (-4503599627370496 : Int64)), .second, .val (.ref w0), .val (.long fr), .second, .val (.long ((-4503599627370496 : Int64) ||| (fr <<< ((42 : Int32) &&& 0x3f).toInt64))), .second, .unset, .unset] [])) _
        refine XS.lload X14.here hx rfl (hb hby at_52) rfl ?_
        show Steps p.tables e below (T14.setTop (mkF m 54 #[.val (.int p1), .val (.int p2), .val (.long q3), .second, .val (.int (0 : Int32)), .val (.long (1 : Int64)), .second, .val (.long (-4503599627370496 : Int64)), .second, .val (.ref w0), .val (.long fr), .second, .val (.long ((-4503599627370496 : Int64) ||| (fr <<< ((42 : Int32) &&& 0x3f).toInt64))), .second, .unset, .unset] [(.long (1 : Int64))])) _
        refine XS.bipush X14.here hx rfl (hb hby at_54) ?_
        show Steps p.tables e below (T14.setTop (mkF m 56 #[.val (.int p1), .val (.int p2), .val (.long q3), .second, .val (.int (0 : Int32)), .val (.long (1 : Int64)), .second, .val (.long (-4503599627370496 : Int64)), .second, .val (.ref w0), .val (.long fr), .second, .val (.long ((-4503599627370496 : Int64) ||| (fr <<< ((42 : Int32) &&& 0x3f).toInt64))), .second, .unset, .unset] [(.int (15 : Int32)), (.long (1 : Int64))])) _
        refine XS.lshl X14.here hx rfl (hb hby at_56) rfl ?_
        show Steps p.tables e below (T14.setTop (mkF m 57 #[.val (.int p1), .val (.int p2), .val (.long q3), .second, .val (.int (0 : Int32)), .val (.long (1 : Int64)), .second, .val (.long (-4503599627370496 : Int64)), .second, .val (.ref w0), .val (.long fr), .second, .val (.long ((-4503599627370496 : Int64) ||| (fr <<< ((42 : Int32) &&& 0x3f).toInt64))), .second, .unset, .unset] [(.long ((1 : Int64) <<< ((15 : Int32) &&& 0x3f).toInt64))])) _
        exact kt
      rw [show ((1 : Int64) <<< ((15 : Int32) &&& 0x3f).toInt64) = (32768 : Int64) from by decide +kernel] at pre16
      have pre17 : ∀ t, Steps p.tables e below (T14.setTop (mkF m 61 #[.val (.int p1), .val (.int p2), .val (.long q3), .second, .val (.int (0 : Int32)), .val (.long (1 : Int64)), .second, .val (.long (-4503599627370496 : Int64)), .second, .val (.ref w0), .val (.long fr), .second, .val (.long ((-4503599627370496 : Int64) ||| (fr <<< ((42 : Int32) &&& 0x3f).toInt64))), .second, .unset, .unset] [(.long ((32768 : Int64) ||| (31744 : Int64)))])) t → Steps p.tables e below (s₁.setTop (entryFrame m #[(.int p1), (.int p2), (.long q3)] maxLocals)) t := fun t kt => by
        refine pre16 _ ?_
        show Steps p.tables e below (T14.setTop (mkF m 57 #[.val (.int p1), .val (.int p2), .val (.long q3), .second, .val (.int (0 : Int32)), .val (.long (1 : Int64)), .second, .val (.long (-4503599627370496 : Int64)), .second, .val (.ref w0), .val (.long fr), .second, .val (.long ((-4503599627370496 : Int64) ||| (fr <<< ((42 : Int32) &&& 0x3f).toInt64))), .second, .unset, .unset] [(.long (32768 : Int64))])) _
        refine X14.ldc2Long hx hown (mvT hZ (hw _ (List.mem_of_getElem? (i := 6) rfl))) (g := (mkF m 57 #[.val (.int p1), .val (.int p2), .val (.long q3), .second, .val (.int (0 : Int32)), .val (.long (1 : Int64)), .second, .val (.long (-4503599627370496 : Int64)), .second, .val (.ref w0), .val (.long fr), .second, .val (.long ((-4503599627370496 : Int64) ||| (fr <<< ((42 : Int32) &&& 0x3f).toInt64))), .second, .unset, .unset] [(.long (32768 : Int64))])) rfl (hb hby at_57) _ ?_
        show Steps p.tables e below (T14.setTop (mkF m 60 #[.val (.int p1), .val (.int p2), .val (.long q3), .second, .val (.int (0 : Int32)), .val (.long (1 : Int64)), .second, .val (.long (-4503599627370496 : Int64)), .second, .val (.ref w0), .val (.long fr), .second, .val (.long ((-4503599627370496 : Int64) ||| (fr <<< ((42 : Int32) &&& 0x3f).toInt64))), .second, .unset, .unset] [(.long (31744 : Int64)), (.long (32768 : Int64))])) _
        refine XS.lor X14.here hx rfl (hb hby at_60) rfl ?_
        show Steps p.tables e below (T14.setTop (mkF m 61 #[.val (.int p1), .val (.int p2), .val (.long q3), .second, .val (.int (0 : Int32)), .val (.long (1 : Int64)), .second, .val (.long (-4503599627370496 : Int64)), .second, .val (.ref w0), .val (.long fr), .second, .val (.long ((-4503599627370496 : Int64) ||| (fr <<< ((42 : Int32) &&& 0x3f).toInt64))), .second, .unset, .unset] [(.long ((32768 : Int64) ||| (31744 : Int64)))])) _
        exact kt
      rw [show ((32768 : Int64) ||| (31744 : Int64)) = (64512 : Int64) from by decide +kernel] at pre17
      have pre18 : ∀ t, Steps p.tables e below (T14.setTop (mkF m 141 #[.val (.int p1), .val (.int p2), .val (.long q3), .second, .val (.int (0 : Int32)), .val (.long (1 : Int64)), .second, .val (.long (-4503599627370496 : Int64)), .second, .val (.ref w0), .val (.long fr), .second, .val (.long ((-4503599627370496 : Int64) ||| (fr <<< ((42 : Int32) &&& 0x3f).toInt64))), .second, .val (.long ((64512 : Int64) ||| fr)), .second] [(.int (lcmpW fr (0 : Int64)))])) t → Steps p.tables e below (s₁.setTop (entryFrame m #[(.int p1), (.int p2), (.long q3)] maxLocals)) t := fun t kt => by
        refine pre17 _ ?_
        show Steps p.tables e below (T14.setTop (mkF m 61 #[.val (.int p1), .val (.int p2), .val (.long q3), .second, .val (.int (0 : Int32)), .val (.long (1 : Int64)), .second, .val (.long (-4503599627370496 : Int64)), .second, .val (.ref w0), .val (.long fr), .second, .val (.long ((-4503599627370496 : Int64) ||| (fr <<< ((42 : Int32) &&& 0x3f).toInt64))), .second, .unset, .unset] [(.long (64512 : Int64))])) _
        refine XS.lload X14.here hx rfl (hb hby at_61) rfl ?_
        show Steps p.tables e below (T14.setTop (mkF m 63 #[.val (.int p1), .val (.int p2), .val (.long q3), .second, .val (.int (0 : Int32)), .val (.long (1 : Int64)), .second, .val (.long (-4503599627370496 : Int64)), .second, .val (.ref w0), .val (.long fr), .second, .val (.long ((-4503599627370496 : Int64) ||| (fr <<< ((42 : Int32) &&& 0x3f).toInt64))), .second, .unset, .unset] [(.long fr), (.long (64512 : Int64))])) _
        refine XS.lor X14.here hx rfl (hb hby at_63) rfl ?_
        show Steps p.tables e below (T14.setTop (mkF m 64 #[.val (.int p1), .val (.int p2), .val (.long q3), .second, .val (.int (0 : Int32)), .val (.long (1 : Int64)), .second, .val (.long (-4503599627370496 : Int64)), .second, .val (.ref w0), .val (.long fr), .second, .val (.long ((-4503599627370496 : Int64) ||| (fr <<< ((42 : Int32) &&& 0x3f).toInt64))), .second, .unset, .unset] [(.long ((64512 : Int64) ||| fr))])) _
        refine XS.lstore X14.here hx rfl (hb hby at_64) rfl (l' := #[.val (.int p1), .val (.int p2), .val (.long q3), .second, .val (.int (0 : Int32)), .val (.long (1 : Int64)), .second, .val (.long (-4503599627370496 : Int64)), .second, .val (.ref w0), .val (.long fr), .second, .val (.long ((-4503599627370496 : Int64) ||| (fr <<< ((42 : Int32) &&& 0x3f).toInt64))), .second, .val (.long ((64512 : Int64) ||| fr)), .second]) rfl ?_
        show Steps p.tables e below (T14.setTop (mkF m 66 #[.val (.int p1), .val (.int p2), .val (.long q3), .second, .val (.int (0 : Int32)), .val (.long (1 : Int64)), .second, .val (.long (-4503599627370496 : Int64)), .second, .val (.ref w0), .val (.long fr), .second, .val (.long ((-4503599627370496 : Int64) ||| (fr <<< ((42 : Int32) &&& 0x3f).toInt64))), .second, .val (.long ((64512 : Int64) ||| fr)), .second] [])) _
        refine XS.goto X14.here hx rfl (pc0 := 66) (pc' := 137) rfl (hb hby at_66) (by decide) (by decide) ?_
        show Steps p.tables e below (T14.setTop (mkF m 137 #[.val (.int p1), .val (.int p2), .val (.long q3), .second, .val (.int (0 : Int32)), .val (.long (1 : Int64)), .second, .val (.long (-4503599627370496 : Int64)), .second, .val (.ref w0), .val (.long fr), .second, .val (.long ((-4503599627370496 : Int64) ||| (fr <<< ((42 : Int32) &&& 0x3f).toInt64))), .second, .val (.long ((64512 : Int64) ||| fr)), .second] [])) _
        refine XS.lload X14.here hx rfl (hb hby at_137) rfl ?_
        show Steps p.tables e below (T14.setTop (mkF m 139 #[.val (.int p1), .val (.int p2), .val (.long q3), .second, .val (.int (0 : Int32)), .val (.long (1 : Int64)), .second, .val (.long (-4503599627370496 : Int64)), .second, .val (.ref w0), .val (.long fr), .second, .val (.long ((-4503599627370496 : Int64) ||| (fr <<< ((42 : Int32) &&& 0x3f).toInt64))), .second, .val (.long ((64512 : Int64) ||| fr)), .second] [(.long fr)])) _
        refine XS.lconst X14.here hx rfl (hb hby at_139) ?_
        show Steps p.tables e below (T14.setTop (mkF m 140 #[.val (.int p1), .val (.int p2), .val (.long q3), .second, .val (.int (0 : Int32)), .val (.long (1 : Int64)), .second, .val (.long (-4503599627370496 : Int64)), .second, .val (.ref w0), .val (.long fr), .second, .val (.long ((-4503599627370496 : Int64) ||| (fr <<< ((42 : Int32) &&& 0x3f).toInt64))), .second, .val (.long ((64512 : Int64) ||| fr)), .second] [(.long (0 : Int64)), (.long fr)])) _
        refine XS.lcmp X14.here hx rfl (hb hby at_140) rfl ?_
        show Steps p.tables e below (T14.setTop (mkF m 141 #[.val (.int p1), .val (.int p2), .val (.long q3), .second, .val (.int (0 : Int32)), .val (.long (1 : Int64)), .second, .val (.long (-4503599627370496 : Int64)), .second, .val (.ref w0), .val (.long fr), .second, .val (.long ((-4503599627370496 : Int64) ||| (fr <<< ((42 : Int32) &&& 0x3f).toInt64))), .second, .val (.long ((64512 : Int64) ||| fr)), .second] [(.int (lcmpW fr (0 : Int64)))])) _
        exact kt
      rcases Decidable.em ((lcmpW fr (0 : Int64)) = (0 : Int32)) with hc141_19 | hc141_19
      ·
        obtain ⟨fs, hr, hrun, hended, hW, hsame⟩ := X14.leave (v := some (.int (1 : Int32))) (fun h => by rw [Bd.returns] at h; cases h)
        refine ⟨_, _, pre18 _ ?_, hrun, hended, _, _, rfl, ?_, ⟨_, rfl⟩, hW, hsame.mono (by decide) (by decide)⟩
        ·
          show Steps p.tables e below (T14.setTop (mkF m 141 #[.val (.int p1), .val (.int p2), .val (.long q3), .second, .val (.int (0 : Int32)), .val (.long (1 : Int64)), .second, .val (.long (-4503599627370496 : Int64)), .second, .val (.ref w0), .val (.long fr), .second, .val (.long ((-4503599627370496 : Int64) ||| (fr <<< ((42 : Int32) &&& 0x3f).toInt64))), .second, .val (.long ((64512 : Int64) ||| fr)), .second] [(.int (lcmpW fr (0 : Int64)))])) _
          refine XS.ifNo X14.here hx rfl (hb hby at_141) rfl ((if0 _ _).trans (teq hc141_19).2) ?_
          show Steps p.tables e below (T14.setTop (mkF m 144 #[.val (.int p1), .val (.int p2), .val (.long q3), .second, .val (.int (0 : Int32)), .val (.long (1 : Int64)), .second, .val (.long (-4503599627370496 : Int64)), .second, .val (.ref w0), .val (.long fr), .second, .val (.long ((-4503599627370496 : Int64) ||| (fr <<< ((42 : Int32) &&& 0x3f).toInt64))), .second, .val (.long ((64512 : Int64) ||| fr)), .second] [])) _
          refine XS.iconst X14.here hx rfl (hb hby at_144) ?_
          show Steps p.tables e below (T14.setTop (mkF m 145 #[.val (.int p1), .val (.int p2), .val (.long q3), .second, .val (.int (0 : Int32)), .val (.long (1 : Int64)), .second, .val (.long (-4503599627370496 : Int64)), .second, .val (.ref w0), .val (.long fr), .second, .val (.long ((-4503599627370496 : Int64) ||| (fr <<< ((42 : Int32) &&& 0x3f).toInt64))), .second, .val (.long ((64512 : Int64) ||| fr)), .second] [(.int (1 : Int32))])) _
          exact retN X14 hx (t := .boolean) Bd.returns (by simp) (hb hby at_145) hr
        ·
          show Q_rm0 Z p1 p2 q3 w0 w1 w2 h0 n0 (_) T14.heap (_)
          rw [e14]
          exact ⟨rfl, N0⟩
      ·
        obtain ⟨cq20, kq20, q20a, q20b, q20c⟩ := isOf hZ e14 E0
        obtain ⟨_, _, ⟨T20, L20, k20, n20⟩, -, X20, ⟨Lc20, hQ20, l20, y20, z20⟩, st20⟩ := X14.virtualBack hx (y := (⟨"com/example/chronotag/chronotag/codec/FloatFormat", "narrowNaN", "(J)J"⟩ : MethodName)) (z := (⟨"com/example/chronotag/chronotag/codec/FloatFormat", "narrowNaN", "(J)J"⟩ : MethodName)) hown (mvT hZ (hw _ (List.mem_of_getElem? (i := 7) rfl))) (mvT hZ (hw _ (List.mem_of_getElem? (i := 8) rfl))) (notFace_of_selects (args := #[]) (mvT hZ (hw _ (List.mem_of_getElem? (i := 10) rfl)))) (mvT hZ (hw _ (List.mem_of_getElem? (i := 10) rfl))) (mvT hZ (hw _ (List.mem_of_getElem? (i := 9) rfl))) (by decide) (backOf (W := 0) (rmF0 l Z a0 hw [] w0 ((-4503599627370496 : Int64) ||| (fr <<< ((42 : Int32) &&& 0x3f).toInt64)) h0 n0 Z0 F0w F0f) hZ (hw _ (List.mem_of_getElem? (i := 11) rfl)) (hw _ (List.mem_of_getElem? (i := 3) rfl)) (by decide) (by decide)) q20a q20c (g := (mkF m 150 #[.val (.int p1), .val (.int p2), .val (.long q3), .second, .val (.int (0 : Int32)), .val (.long (1 : Int64)), .second, .val (.long (-4503599627370496 : Int64)), .second, .val (.ref w0), .val (.long fr), .second, .val (.long ((-4503599627370496 : Int64) ||| (fr <<< ((42 : Int32) &&& 0x3f).toInt64))), .second, .val (.long ((64512 : Int64) ||| fr)), .second] [(.long ((-4503599627370496 : Int64) ||| (fr <<< ((42 : Int32) &&& 0x3f).toInt64))), (.ref w0)])) rfl (by rw [hml]; rfl) (Steps.refl _) (argsL := [(.long ((-4503599627370496 : Int64) ||| (fr <<< ((42 : Int32) &&& 0x3f).toInt64)))]) (rest := []) (lenOf own_pd0 rfl) rfl (by show 2 * 0 + _ ≤ _; exact Nat.le_of_eq rfl) (hb hby at_150) (fun _ _ => ⟨rfl, e14, (by decide : 0 + 0 ≤ _), (by decide : 0 + 0 ≤ _)⟩)
        dsimp only [Pt.U, Pt.locs, Pt.cells, Pt.slots] at X20 l20 y20 z20 st20 hQ20
        subst l20 y20 z20
        obtain ⟨rfl, N20q, eq20⟩ := hQ20
        have N20 := Fr.app N0 N20q
        obtain ⟨fs, hr, hrun, hended, hW, hsame⟩ := X20.leave (v := some (.int (1 : Int32))) (fun h => by rw [Bd.returns] at h; cases h)
        refine ⟨_, _, pre18 _ ?_, hrun, hended, _, _, rfl, ?_, ⟨_, rfl⟩, hW, hsame.mono (by decide) (by decide)⟩
        ·
          show Steps p.tables e below (T14.setTop (mkF m 141 #[.val (.int p1), .val (.int p2), .val (.long q3), .second, .val (.int (0 : Int32)), .val (.long (1 : Int64)), .second, .val (.long (-4503599627370496 : Int64)), .second, .val (.ref w0), .val (.long fr), .second, .val (.long ((-4503599627370496 : Int64) ||| (fr <<< ((42 : Int32) &&& 0x3f).toInt64))), .second, .val (.long ((64512 : Int64) ||| fr)), .second] [(.int (lcmpW fr (0 : Int64)))])) _
          refine XS.ifYes X14.here hx rfl (pc0 := 141) (pc' := 146) rfl (hb hby at_141) rfl ((if0 _ _).trans (feq hc141_19).2) (by decide) (by decide) ?_
          show Steps p.tables e below (T14.setTop (mkF m 146 #[.val (.int p1), .val (.int p2), .val (.long q3), .second, .val (.int (0 : Int32)), .val (.long (1 : Int64)), .second, .val (.long (-4503599627370496 : Int64)), .second, .val (.ref w0), .val (.long fr), .second, .val (.long ((-4503599627370496 : Int64) ||| (fr <<< ((42 : Int32) &&& 0x3f).toInt64))), .second, .val (.long ((64512 : Int64) ||| fr)), .second] [])) _
          refine XS.aload X14.here hx rfl (hb hby at_146) rfl rfl ?_
          show Steps p.tables e below (T14.setTop (mkF m 148 #[.val (.int p1), .val (.int p2), .val (.long q3), .second, .val (.int (0 : Int32)), .val (.long (1 : Int64)), .second, .val (.long (-4503599627370496 : Int64)), .second, .val (.ref w0), .val (.long fr), .second, .val (.long ((-4503599627370496 : Int64) ||| (fr <<< ((42 : Int32) &&& 0x3f).toInt64))), .second, .val (.long ((64512 : Int64) ||| fr)), .second] [(.ref w0)])) _
          refine XS.lload X14.here hx rfl (hb hby at_148) rfl ?_
          show Steps p.tables e below (T14.setTop (mkF m 150 #[.val (.int p1), .val (.int p2), .val (.long q3), .second, .val (.int (0 : Int32)), .val (.long (1 : Int64)), .second, .val (.long (-4503599627370496 : Int64)), .second, .val (.ref w0), .val (.long fr), .second, .val (.long ((-4503599627370496 : Int64) ||| (fr <<< ((42 : Int32) &&& 0x3f).toInt64))), .second, .val (.long ((64512 : Int64) ||| fr)), .second] [(.long ((-4503599627370496 : Int64) ||| (fr <<< ((42 : Int32) &&& 0x3f).toInt64))), (.ref w0)])) _
          refine st20.trans ?_
          show Steps p.tables e below (T20.setTop (mkF m 153 #[.val (.int p1), .val (.int p2), .val (.long q3), .second, .val (.int (0 : Int32)), .val (.long (1 : Int64)), .second, .val (.long (-4503599627370496 : Int64)), .second, .val (.ref w0), .val (.long fr), .second, .val (.long ((-4503599627370496 : Int64) ||| (fr <<< ((42 : Int32) &&& 0x3f).toInt64))), .second, .val (.long ((64512 : Int64) ||| fr)), .second] [(.long (((((((-4503599627370496 : Int64) ||| (fr <<< ((42 : Int32) &&& 0x3f).toInt64)).toUInt64 >>> ((63 : Int32) &&& 0x3f).toInt64.toUInt64).toInt64) <<< ((15 : Int32) &&& 0x3f).toInt64) ||| (31744 : Int64)) ||| (((((-4503599627370496 : Int64) ||| (fr <<< ((42 : Int32) &&& 0x3f).toInt64)) &&& (4503599627370495 : Int64)).toUInt64 >>> ((42 : Int32) &&& 0x3f).toInt64.toUInt64).toInt64)))])) _
          refine XS.lload X20.here hx rfl (hb hby at_153) rfl ?_
          show Steps p.tables e below (T20.setTop (mkF m 155 #[.val (.int p1), .val (.int p2), .val (.long q3), .second, .val (.int (0 : Int32)), .val (.long (1 : Int64)), .second, .val (.long (-4503599627370496 : Int64)), .second, .val (.ref w0), .val (.long fr), .second, .val (.long ((-4503599627370496 : Int64) ||| (fr <<< ((42 : Int32) &&& 0x3f).toInt64))), .second, .val (.long ((64512 : Int64) ||| fr)), .second] [(.long ((64512 : Int64) ||| fr)), (.long (((((((-4503599627370496 : Int64) ||| (fr <<< ((42 : Int32) &&& 0x3f).toInt64)).toUInt64 >>> ((63 : Int32) &&& 0x3f).toInt64.toUInt64).toInt64) <<< ((15 : Int32) &&& 0x3f).toInt64) ||| (31744 : Int64)) ||| (((((-4503599627370496 : Int64) ||| (fr <<< ((42 : Int32) &&& 0x3f).toInt64)) &&& (4503599627370495 : Int64)).toUInt64 >>> ((42 : Int32) &&& 0x3f).toInt64.toUInt64).toInt64)))])) _
          refine XS.lcmp X20.here hx rfl (hb hby at_155) rfl ?_
          show Steps p.tables e below (T20.setTop (mkF m 156 #[.val (.int p1), .val (.int p2), .val (.long q3), .second, .val (.int (0 : Int32)), .val (.long (1 : Int64)), .second, .val (.long (-4503599627370496 : Int64)), .second, .val (.ref w0), .val (.long fr), .second, .val (.long ((-4503599627370496 : Int64) ||| (fr <<< ((42 : Int32) &&& 0x3f).toInt64))), .second, .val (.long ((64512 : Int64) ||| fr)), .second] [(.int (lcmpW (((((((-4503599627370496 : Int64) ||| (fr <<< ((42 : Int32) &&& 0x3f).toInt64)).toUInt64 >>> ((63 : Int32) &&& 0x3f).toInt64.toUInt64).toInt64) <<< ((15 : Int32) &&& 0x3f).toInt64) ||| (31744 : Int64)) ||| (((((-4503599627370496 : Int64) ||| (fr <<< ((42 : Int32) &&& 0x3f).toInt64)) &&& (4503599627370495 : Int64)).toUInt64 >>> ((42 : Int32) &&& 0x3f).toInt64.toUInt64).toInt64)) ((64512 : Int64) ||| fr)))])) _
          refine XS.ifNo X20.here hx rfl (hb hby at_156) rfl ((if0 _ _).trans (teq ((lw_eq _ _).mpr (own_n_0_1 fr hf0 hf1))).2) ?_
          show Steps p.tables e below (T20.setTop (mkF m 159 #[.val (.int p1), .val (.int p2), .val (.long q3), .second, .val (.int (0 : Int32)), .val (.long (1 : Int64)), .second, .val (.long (-4503599627370496 : Int64)), .second, .val (.ref w0), .val (.long fr), .second, .val (.long ((-4503599627370496 : Int64) ||| (fr <<< ((42 : Int32) &&& 0x3f).toInt64))), .second, .val (.long ((64512 : Int64) ||| fr)), .second] [])) _
          refine XS.iconst X20.here hx rfl (hb hby at_159) ?_
          show Steps p.tables e below (T20.setTop (mkF m 160 #[.val (.int p1), .val (.int p2), .val (.long q3), .second, .val (.int (0 : Int32)), .val (.long (1 : Int64)), .second, .val (.long (-4503599627370496 : Int64)), .second, .val (.ref w0), .val (.long fr), .second, .val (.long ((-4503599627370496 : Int64) ||| (fr <<< ((42 : Int32) &&& 0x3f).toInt64))), .second, .val (.long ((64512 : Int64) ||| fr)), .second] [(.int (1 : Int32))])) _
          refine XS.goto X20.here hx rfl (pc0 := 160) (pc' := 164) rfl (hb hby at_160) (by decide) (by decide) ?_
          show Steps p.tables e below (T20.setTop (mkF m 164 #[.val (.int p1), .val (.int p2), .val (.long q3), .second, .val (.int (0 : Int32)), .val (.long (1 : Int64)), .second, .val (.long (-4503599627370496 : Int64)), .second, .val (.ref w0), .val (.long fr), .second, .val (.long ((-4503599627370496 : Int64) ||| (fr <<< ((42 : Int32) &&& 0x3f).toInt64))), .second, .val (.long ((64512 : Int64) ||| fr)), .second] [(.int (1 : Int32))])) _
          exact retN X20 hx (t := .boolean) Bd.returns (by simp) (hb hby at_164) hr
        ·
          show Q_rm0 Z p1 p2 q3 w0 w1 w2 h0 n0 (_) T20.heap (_)
          rw [eq20]
          exact ⟨rfl, N20⟩
  ·
    rw [hk1] at pre1
    have pre21 : ∀ t, Steps p.tables e below (s₁.setTop (mkF m 14 #[.val (.int p1), .val (.int p2), .val (.long q3), .second, .val (.int (1 : Int32)), .val (.long ((p2 &&& (1 : Int32)).toInt64)), .second, .unset, .unset, .unset, .unset, .unset, .unset, .unset, .unset, .unset] [])) t → Steps p.tables e below (s₁.setTop (entryFrame m #[(.int p1), (.int p2), (.long q3)] maxLocals)) t := fun t kt => by
      refine pre1 _ ?_
      show Steps p.tables e below (s₁.setTop (mkF m 8 #[.val (.int p1), .val (.int p2), .val (.long q3), .second, .val (.int (1 : Int32)), .unset, .unset, .unset, .unset, .unset, .unset, .unset, .unset, .unset, .unset, .unset] [])) _
      refine XS.iloadN X0.here hx rfl (hb hby at_8) rfl ?_
      show Steps p.tables e below (s₁.setTop (mkF m 9 #[.val (.int p1), .val (.int p2), .val (.long q3), .second, .val (.int (1 : Int32)), .unset, .unset, .unset, .unset, .unset, .unset, .unset, .unset, .unset, .unset, .unset] [(.int p2)])) _
      refine XS.iconst X0.here hx rfl (hb hby at_9) ?_
      show Steps p.tables e below (s₁.setTop (mkF m 10 #[.val (.int p1), .val (.int p2), .val (.long q3), .second, .val (.int (1 : Int32)), .unset, .unset, .unset, .unset, .unset, .unset, .unset, .unset, .unset, .unset, .unset] [(.int (1 : Int32)), (.int p2)])) _
      refine XS.iand X0.here hx rfl (hb hby at_10) rfl ?_
      show Steps p.tables e below (s₁.setTop (mkF m 11 #[.val (.int p1), .val (.int p2), .val (.long q3), .second, .val (.int (1 : Int32)), .unset, .unset, .unset, .unset, .unset, .unset, .unset, .unset, .unset, .unset, .unset] [(.int (p2 &&& (1 : Int32)))])) _
      refine XS.i2l X0.here hx rfl (hb hby at_11) rfl ?_
      show Steps p.tables e below (s₁.setTop (mkF m 12 #[.val (.int p1), .val (.int p2), .val (.long q3), .second, .val (.int (1 : Int32)), .unset, .unset, .unset, .unset, .unset, .unset, .unset, .unset, .unset, .unset, .unset] [(.long ((p2 &&& (1 : Int32)).toInt64))])) _
      refine XS.lstore X0.here hx rfl (hb hby at_12) rfl (l' := #[.val (.int p1), .val (.int p2), .val (.long q3), .second, .val (.int (1 : Int32)), .val (.long ((p2 &&& (1 : Int32)).toInt64)), .second, .unset, .unset, .unset, .unset, .unset, .unset, .unset, .unset, .unset]) rfl ?_
      show Steps p.tables e below (s₁.setTop (mkF m 14 #[.val (.int p1), .val (.int p2), .val (.long q3), .second, .val (.int (1 : Int32)), .val (.long ((p2 &&& (1 : Int32)).toInt64)), .second, .unset, .unset, .unset, .unset, .unset, .unset, .unset, .unset, .unset] [])) _
      exact kt
    rcases own_s1 p2 with hs0 | hs1
    ·
      rw [hs0] at pre21
      have pre22 : ∀ t, Steps p.tables e below (s₁.setTop (mkF m 19 #[.val (.int p1), .val (.int p2), .val (.long q3), .second, .val (.int (1 : Int32)), .val (.long (0 : Int64)), .second, .unset, .unset, .unset, .unset, .unset, .unset, .unset, .unset, .unset] [(.long ((0 : Int64) <<< ((63 : Int32) &&& 0x3f).toInt64))])) t → Steps p.tables e below (s₁.setTop (entryFrame m #[(.int p1), (.int p2), (.long q3)] maxLocals)) t := fun t kt => by
        refine pre21 _ ?_
        show Steps p.tables e below (s₁.setTop (mkF m 14 #[.val (.int p1), .val (.int p2), .val (.long q3), .second, .val (.int (1 : Int32)), .val (.long (0 : Int64)), .second, .unset, .unset, .unset, .unset, .unset, .unset, .unset, .unset, .unset] [])) _
        refine XS.lload X0.here hx rfl (hb hby at_14) rfl ?_
        show Steps p.tables e below (s₁.setTop (mkF m 16 #[.val (.int p1), .val (.int p2), .val (.long q3), .second, .val (.int (1 : Int32)), .val (.long (0 : Int64)), .second, .unset, .unset, .unset, .unset, .unset, .unset, .unset, .unset, .unset] [(.long (0 : Int64))])) _
        refine XS.bipush X0.here hx rfl (hb hby at_16) ?_
        show Steps p.tables e below (s₁.setTop (mkF m 18 #[.val (.int p1), .val (.int p2), .val (.long q3), .second, .val (.int (1 : Int32)), .val (.long (0 : Int64)), .second, .unset, .unset, .unset, .unset, .unset, .unset, .unset, .unset, .unset] [(.int (63 : Int32)), (.long (0 : Int64))])) _
        refine XS.lshl X0.here hx rfl (hb hby at_18) rfl ?_
        show Steps p.tables e below (s₁.setTop (mkF m 19 #[.val (.int p1), .val (.int p2), .val (.long q3), .second, .val (.int (1 : Int32)), .val (.long (0 : Int64)), .second, .unset, .unset, .unset, .unset, .unset, .unset, .unset, .unset, .unset] [(.long ((0 : Int64) <<< ((63 : Int32) &&& 0x3f).toInt64))])) _
        exact kt
      rw [show ((0 : Int64) <<< ((63 : Int32) &&& 0x3f).toInt64) = (0 : Int64) from by decide +kernel] at pre22
      have pre23 : ∀ t, Steps p.tables e below (s₁.setTop (mkF m 23 #[.val (.int p1), .val (.int p2), .val (.long q3), .second, .val (.int (1 : Int32)), .val (.long (0 : Int64)), .second, .unset, .unset, .unset, .unset, .unset, .unset, .unset, .unset, .unset] [(.long ((0 : Int64) ||| (9218868437227405312 : Int64)))])) t → Steps p.tables e below (s₁.setTop (entryFrame m #[(.int p1), (.int p2), (.long q3)] maxLocals)) t := fun t kt => by
        refine pre22 _ ?_
        show Steps p.tables e below (s₁.setTop (mkF m 19 #[.val (.int p1), .val (.int p2), .val (.long q3), .second, .val (.int (1 : Int32)), .val (.long (0 : Int64)), .second, .unset, .unset, .unset, .unset, .unset, .unset, .unset, .unset, .unset] [(.long (0 : Int64))])) _
        refine X0.ldc2Long hx hown (mvT hZ (hw _ (List.mem_of_getElem? (i := 1) rfl))) (g := (mkF m 19 #[.val (.int p1), .val (.int p2), .val (.long q3), .second, .val (.int (1 : Int32)), .val (.long (0 : Int64)), .second, .unset, .unset, .unset, .unset, .unset, .unset, .unset, .unset, .unset] [(.long (0 : Int64))])) rfl (hb hby at_19) _ ?_
        show Steps p.tables e below (s₁.setTop (mkF m 22 #[.val (.int p1), .val (.int p2), .val (.long q3), .second, .val (.int (1 : Int32)), .val (.long (0 : Int64)), .second, .unset, .unset, .unset, .unset, .unset, .unset, .unset, .unset, .unset] [(.long (9218868437227405312 : Int64)), (.long (0 : Int64))])) _
        refine XS.lor X0.here hx rfl (hb hby at_22) rfl ?_
        show Steps p.tables e below (s₁.setTop (mkF m 23 #[.val (.int p1), .val (.int p2), .val (.long q3), .second, .val (.int (1 : Int32)), .val (.long (0 : Int64)), .second, .unset, .unset, .unset, .unset, .unset, .unset, .unset, .unset, .unset] [(.long ((0 : Int64) ||| (9218868437227405312 : Int64)))])) _
        exact kt
      rw [show ((0 : Int64) ||| (9218868437227405312 : Int64)) = (9218868437227405312 : Int64) from by decide +kernel] at pre23
      obtain ⟨T24, X24, e24, st24⟩ := getS2 X0 hx hZ hown (host := "") (Or.inl (hw _ (List.mem_of_getElem? (i := 17) rfl))) Via.refl e0 S1 (g := (mkF m 75 #[.val (.int p1), .val (.int p2), .val (.long q3), .second, .val (.int (1 : Int32)), .val (.long (0 : Int64)), .second, .val (.long (9218868437227405312 : Int64)), .second, .unset, .unset, .unset, .unset, .unset, .unset, .unset] [])) rfl (hb hby at_75)
      have pre25 : ∀ t, Steps p.tables e below (T24.setTop (mkF m 87 #[.val (.int p1), .val (.int p2), .val (.long q3), .second, .val (.int (1 : Int32)), .val (.long (0 : Int64)), .second, .val (.long (9218868437227405312 : Int64)), .second, .val (.ref w1), .val (.long (q3 &&& (8388607 : Int64))), .second, .unset, .unset, .unset, .unset] [])) t → Steps p.tables e below (s₁.setTop (entryFrame m #[(.int p1), (.int p2), (.long q3)] maxLocals)) t := fun t kt => by
        refine pre23 _ ?_
        show Steps p.tables e below (s₁.setTop (mkF m 23 #[.val (.int p1), .val (.int p2), .val (.long q3), .second, .val (.int (1 : Int32)), .val (.long (0 : Int64)), .second, .unset, .unset, .unset, .unset, .unset, .unset, .unset, .unset, .unset] [(.long (9218868437227405312 : Int64))])) _
        refine XS.lstore X0.here hx rfl (hb hby at_23) rfl (l' := #[.val (.int p1), .val (.int p2), .val (.long q3), .second, .val (.int (1 : Int32)), .val (.long (0 : Int64)), .second, .val (.long (9218868437227405312 : Int64)), .second, .unset, .unset, .unset, .unset, .unset, .unset, .unset]) rfl ?_
        show Steps p.tables e below (s₁.setTop (mkF m 25 #[.val (.int p1), .val (.int p2), .val (.long q3), .second, .val (.int (1 : Int32)), .val (.long (0 : Int64)), .second, .val (.long (9218868437227405312 : Int64)), .second, .unset, .unset, .unset, .unset, .unset, .unset, .unset] [])) _
        refine XS.iload X0.here hx rfl (hb hby at_25) rfl ?_
        show Steps p.tables e below (s₁.setTop (mkF m 27 #[.val (.int p1), .val (.int p2), .val (.long q3), .second, .val (.int (1 : Int32)), .val (.long (0 : Int64)), .second, .val (.long (9218868437227405312 : Int64)), .second, .unset, .unset, .unset, .unset, .unset, .unset, .unset] [(.int (1 : Int32))])) _
        refine XS.ifYes X0.here hx rfl (pc0 := 27) (pc' := 69) rfl (hb hby at_27) rfl ((if0 _ _).trans (feq (by decide : ¬ ((1 : Int32) = (0 : Int32)))).2) (by decide) (by decide) ?_
        show Steps p.tables e below (s₁.setTop (mkF m 69 #[.val (.int p1), .val (.int p2), .val (.long q3), .second, .val (.int (1 : Int32)), .val (.long (0 : Int64)), .second, .val (.long (9218868437227405312 : Int64)), .second, .unset, .unset, .unset, .unset, .unset, .unset, .unset] [])) _
        refine XS.iload X0.here hx rfl (hb hby at_69) rfl ?_
        show Steps p.tables e below (s₁.setTop (mkF m 71 #[.val (.int p1), .val (.int p2), .val (.long q3), .second, .val (.int (1 : Int32)), .val (.long (0 : Int64)), .second, .val (.long (9218868437227405312 : Int64)), .second, .unset, .unset, .unset, .unset, .unset, .unset, .unset] [(.int (1 : Int32))])) _
        refine XS.iconst X0.here hx rfl (hb hby at_71) ?_
        show Steps p.tables e below (s₁.setTop (mkF m 72 #[.val (.int p1), .val (.int p2), .val (.long q3), .second, .val (.int (1 : Int32)), .val (.long (0 : Int64)), .second, .val (.long (9218868437227405312 : Int64)), .second, .unset, .unset, .unset, .unset, .unset, .unset, .unset] [(.int (1 : Int32)), (.int (1 : Int32))])) _
        refine XS.icmpNo X0.here hx rfl (hb hby at_72) rfl (teq (by decide : (1 : Int32) = (1 : Int32))).2 ?_
        show Steps p.tables e below (s₁.setTop (mkF m 75 #[.val (.int p1), .val (.int p2), .val (.long q3), .second, .val (.int (1 : Int32)), .val (.long (0 : Int64)), .second, .val (.long (9218868437227405312 : Int64)), .second, .unset, .unset, .unset, .unset, .unset, .unset, .unset] [])) _
        refine st24 _ ?_
        show Steps p.tables e below (T24.setTop (mkF m 78 #[.val (.int p1), .val (.int p2), .val (.long q3), .second, .val (.int (1 : Int32)), .val (.long (0 : Int64)), .second, .val (.long (9218868437227405312 : Int64)), .second, .unset, .unset, .unset, .unset, .unset, .unset, .unset] [(.ref w1)])) _
        refine XS.astore X24.here hx rfl (hb hby at_78) rfl rfl (l' := #[.val (.int p1), .val (.int p2), .val (.long q3), .second, .val (.int (1 : Int32)), .val (.long (0 : Int64)), .second, .val (.long (9218868437227405312 : Int64)), .second, .val (.ref w1), .unset, .unset, .unset, .unset, .unset, .unset]) rfl ?_
        show Steps p.tables e below (T24.setTop (mkF m 80 #[.val (.int p1), .val (.int p2), .val (.long q3), .second, .val (.int (1 : Int32)), .val (.long (0 : Int64)), .second, .val (.long (9218868437227405312 : Int64)), .second, .val (.ref w1), .unset, .unset, .unset, .unset, .unset, .unset] [])) _
        refine XS.lloadN X24.here hx rfl (hb hby at_80) rfl ?_
        show Steps p.tables e below (T24.setTop (mkF m 81 #[.val (.int p1), .val (.int p2), .val (.long q3), .second, .val (.int (1 : Int32)), .val (.long (0 : Int64)), .second, .val (.long (9218868437227405312 : Int64)), .second, .val (.ref w1), .unset, .unset, .unset, .unset, .unset, .unset] [(.long q3)])) _
        refine X24.ldc2Long hx hown (mvT hZ (hw _ (List.mem_of_getElem? (i := 19) rfl))) (g := (mkF m 81 #[.val (.int p1), .val (.int p2), .val (.long q3), .second, .val (.int (1 : Int32)), .val (.long (0 : Int64)), .second, .val (.long (9218868437227405312 : Int64)), .second, .val (.ref w1), .unset, .unset, .unset, .unset, .unset, .unset] [(.long q3)])) rfl (hb hby at_81) _ ?_
        show Steps p.tables e below (T24.setTop (mkF m 84 #[.val (.int p1), .val (.int p2), .val (.long q3), .second, .val (.int (1 : Int32)), .val (.long (0 : Int64)), .second, .val (.long (9218868437227405312 : Int64)), .second, .val (.ref w1), .unset, .unset, .unset, .unset, .unset, .unset] [(.long (8388607 : Int64)), (.long q3)])) _
        refine XS.land X24.here hx rfl (hb hby at_84) rfl ?_
        show Steps p.tables e below (T24.setTop (mkF m 85 #[.val (.int p1), .val (.int p2), .val (.long q3), .second, .val (.int (1 : Int32)), .val (.long (0 : Int64)), .second, .val (.long (9218868437227405312 : Int64)), .second, .val (.ref w1), .unset, .unset, .unset, .unset, .unset, .unset] [(.long (q3 &&& (8388607 : Int64)))])) _
        refine XS.lstore X24.here hx rfl (hb hby at_85) rfl (l' := #[.val (.int p1), .val (.int p2), .val (.long q3), .second, .val (.int (1 : Int32)), .val (.long (0 : Int64)), .second, .val (.long (9218868437227405312 : Int64)), .second, .val (.ref w1), .val (.long (q3 &&& (8388607 : Int64))), .second, .unset, .unset, .unset, .unset]) rfl ?_
        show Steps p.tables e below (T24.setTop (mkF m 87 #[.val (.int p1), .val (.int p2), .val (.long q3), .second, .val (.int (1 : Int32)), .val (.long (0 : Int64)), .second, .val (.long (9218868437227405312 : Int64)), .second, .val (.ref w1), .val (.long (q3 &&& (8388607 : Int64))), .second, .unset, .unset, .unset, .unset] [])) _
        exact kt
      obtain ⟨fr, hfr⟩ : ∃ z, z = (q3 &&& (8388607 : Int64)) := ⟨_, rfl⟩
      rw [← hfr] at pre25
      have hm := c_maskL q3 (8388607 : Int64) 23 (by decide) (by decide)
      rw [← hfr] at hm
      have hf0 : 0 ≤ fr.toInt := by omega
      have hf1 : fr.toInt < 8388608 := by omega
      have pre26 : ∀ t, Steps p.tables e below (T24.setTop (mkF m 102 #[.val (.int p1), .val (.int p2), .val (.long q3), .second, .val (.int (1 : Int32)), .val (.long (0 : Int64)), .second, .val (.long (9218868437227405312 : Int64)), .second, .val (.ref w1), .val (.long fr), .second, .val (.long ((9218868437227405312 : Int64) ||| (fr <<< ((29 : Int32) &&& 0x3f).toInt64))), .second, .unset, .unset] [(.long ((0 : Int64) <<< ((31 : Int32) &&& 0x3f).toInt64))])) t → Steps p.tables e below (s₁.setTop (entryFrame m #[(.int p1), (.int p2), (.long q3)] maxLocals)) t := fun t kt => by
        refine pre25 _ ?_
        show Steps p.tables e below (T24.setTop (mkF m 87 #[.val (.int p1), .val (.int p2), .val (.long q3), .second, .val (.int (1 : Int32)), .val (.long (0 : Int64)), .second, .val (.long (9218868437227405312 : Int64)), .second, .val (.ref w1), .val (.long fr), .second, .unset, .unset, .unset, .unset] [])) _
        refine XS.lload X24.here hx rfl (hb hby at_87) rfl ?_
        show Steps p.tables e below (T24.setTop (mkF m 89 #[.val (.int p1), .val (.int p2), .val (.long q3), .second, .val (.int (1 : Int32)), .val (.long (0 : Int64)), .second, .val (.long (9218868437227405312 : Int64)), .second, .val (.ref w1), .val (.long fr), .second, .unset, .unset, .unset, .unset] [(.long (9218868437227405312 : Int64))])) _
        refine XS.lload X24.here hx rfl (hb hby at_89) rfl ?_
        show Steps p.tables e below (T24.setTop (mkF m 91 #[.val (.int p1), .val (.int p2), .val (.long q3), .second, .val (.int (1 : Int32)), .val (.long (0 : Int64)), .second, .val (.long (9218868437227405312 : Int64)), .second, .val (.ref w1), .val (.long fr), .second, .unset, .unset, .unset, .unset] [(.long fr), (.long (9218868437227405312 : Int64))])) _
        refine XS.bipush X24.here hx rfl (hb hby at_91) ?_
        show Steps p.tables e below (T24.setTop (mkF m 93 #[.val (.int p1), .val (.int p2), .val (.long q3), .second, .val (.int (1 : Int32)), .val (.long (0 : Int64)), .second, .val (.long (9218868437227405312 : Int64)), .second, .val (.ref w1), .val (.long fr), .second, .unset, .unset, .unset, .unset] [(.int (29 : Int32)), (.long fr), (.long (9218868437227405312 : Int64))])) _
        refine XS.lshl X24.here hx rfl (hb hby at_93) rfl ?_
        show Steps p.tables e below (T24.setTop (mkF m 94 #[.val (.int p1), .val (.int p2), .val (.long q3), .second, .val (.int (1 : Int32)), .val (.long (0 : Int64)), .second, .val (.long (9218868437227405312 : Int64)), .second, .val (.ref w1), .val (.long fr), .second, .unset, .unset, .unset, .unset] [(.long (fr <<< ((29 : Int32) &&& 0x3f).toInt64)), (.long (9218868437227405312 : Int64))])) _
        refine XS.lor X24.here hx rfl (hb hby at_94) rfl ?_
        show Steps p.tables e below (T24.setTop (mkF m 95 #[.val (.int p1), .val (.int p2), .val (.long q3), .second, .val (.int (1 : Int32)), .val (.long (0 : Int64)), .second, .val (.long (9218868437227405312 : Int64)), .second, .val (.ref w1), .val (.long fr), .second, .unset, .unset, .unset, .unset] [(.long ((9218868437227405312 : Int64) ||| (fr <<< ((29 : Int32) &&& 0x3f).toInt64)))])) _
        refine XS.lstore X24.here hx rfl (hb hby at_95) rfl (l' := #[.val (.int p1), .val (.int p2), .val (.long q3), .second, .val (.int (1 : Int32)), .val (.long (0 : Int64)), .second, .val (.long (9218868437227405312 : Int64)), .second, .val (.ref w1), .val (.long fr), .second, .val (.long ((9218868437227405312 : Int64) ||| (fr <<< ((29 : Int32) &&& 0x3f).toInt64))), .second, .unset, .unset]) rfl ?_
        show Steps p.tables e below (T24.setTop (mkF m 97 #[.val (.int p1), .val (.int p2), .val (.long q3), .second, .val (.int (1 : Int32)), .val (.long (0 : Int64)), .second, .val (.long (9218868437227405312 : Int64)), .second, .val (.ref w1), .val (.long fr), .second, .val (.long ((9218868437227405312 : Int64) ||| (fr <<< ((29 : Int32) &&& 0x3f).toInt64))), .second, .unset, .unset] [])) _
        refine XS.lload X24.here hx rfl (hb hby at_97) rfl ?_
        show Steps p.tables e below (T24.setTop (mkF m 99 #[.val (.int p1), .val (.int p2), .val (.long q3), .second, .val (.int (1 : Int32)), .val (.long (0 : Int64)), .second, .val (.long (9218868437227405312 : Int64)), .second, .val (.ref w1), .val (.long fr), .second, .val (.long ((9218868437227405312 : Int64) ||| (fr <<< ((29 : Int32) &&& 0x3f).toInt64))), .second, .unset, .unset] [(.long (0 : Int64))])) _
        refine XS.bipush X24.here hx rfl (hb hby at_99) ?_
        show Steps p.tables e below (T24.setTop (mkF m 101 #[.val (.int p1), .val (.int p2), .val (.long q3), .second, .val (.int (1 : Int32)), .val (.long (0 : Int64)), .second, .val (.long (9218868437227405312 : Int64)), .second, .val (.ref w1), .val (.long fr), .second, .val (.long ((9218868437227405312 : Int64) ||| (fr <<< ((29 : Int32) &&& 0x3f).toInt64))), .second, .unset, .unset] [(.int (31 : Int32)), (.long (0 : Int64))])) _
        refine XS.lshl X24.here hx rfl (hb hby at_101) rfl ?_
        show Steps p.tables e below (T24.setTop (mkF m 102 #[.val (.int p1), .val (.int p2), .val (.long q3), .second, .val (.int (1 : Int32)), .val (.long (0 : Int64)), .second, .val (.long (9218868437227405312 : Int64)), .second, .val (.ref w1), .val (.long fr), .second, .val (.long ((9218868437227405312 : Int64) ||| (fr <<< ((29 : Int32) &&& 0x3f).toInt64))), .second, .unset, .unset] [(.long ((0 : Int64) <<< ((31 : Int32) &&& 0x3f).toInt64))])) _
        exact kt
      rw [show ((0 : Int64) <<< ((31 : Int32) &&& 0x3f).toInt64) = (0 : Int64) from by decide +kernel] at pre26
      have pre27 : ∀ t, Steps p.tables e below (T24.setTop (mkF m 106 #[.val (.int p1), .val (.int p2), .val (.long q3), .second, .val (.int (1 : Int32)), .val (.long (0 : Int64)), .second, .val (.long (9218868437227405312 : Int64)), .second, .val (.ref w1), .val (.long fr), .second, .val (.long ((9218868437227405312 : Int64) ||| (fr <<< ((29 : Int32) &&& 0x3f).toInt64))), .second, .unset, .unset] [(.long ((0 : Int64) ||| (2139095040 : Int64)))])) t → Steps p.tables e below (s₁.setTop (entryFrame m #[(.int p1), (.int p2), (.long q3)] maxLocals)) t := fun t kt => by
        refine pre26 _ ?_
        show Steps p.tables e below (T24.setTop (mkF m 102 #[.val (.int p1), .val (.int p2), .val (.long q3), .second, .val (.int (1 : Int32)), .val (.long (0 : Int64)), .second, .val (.long (9218868437227405312 : Int64)), .second, .val (.ref w1), .val (.long fr), .second, .val (.long ((9218868437227405312 : Int64) ||| (fr <<< ((29 : Int32) &&& 0x3f).toInt64))), .second, .unset, .unset] [(.long (0 : Int64))])) _
        refine X24.ldc2Long hx hown (mvT hZ (hw _ (List.mem_of_getElem? (i := 20) rfl))) (g := (mkF m 102 #[.val (.int p1), .val (.int p2), .val (.long q3), .second, .val (.int (1 : Int32)), .val (.long (0 : Int64)), .second, .val (.long (9218868437227405312 : Int64)), .second, .val (.ref w1), .val (.long fr), .second, .val (.long ((9218868437227405312 : Int64) ||| (fr <<< ((29 : Int32) &&& 0x3f).toInt64))), .second, .unset, .unset] [(.long (0 : Int64))])) rfl (hb hby at_102) _ ?_
        show Steps p.tables e below (T24.setTop (mkF m 105 #[.val (.int p1), .val (.int p2), .val (.long q3), .second, .val (.int (1 : Int32)), .val (.long (0 : Int64)), .second, .val (.long (9218868437227405312 : Int64)), .second, .val (.ref w1), .val (.long fr), .second, .val (.long ((9218868437227405312 : Int64) ||| (fr <<< ((29 : Int32) &&& 0x3f).toInt64))), .second, .unset, .unset] [(.long (2139095040 : Int64)), (.long (0 : Int64))])) _
        refine XS.lor X24.here hx rfl (hb hby at_105) rfl ?_
        show Steps p.tables e below (T24.setTop (mkF m 106 #[.val (.int p1), .val (.int p2), .val (.long q3), .second, .val (.int (1 : Int32)), .val (.long (0 : Int64)), .second, .val (.long (9218868437227405312 : Int64)), .second, .val (.ref w1), .val (.long fr), .second, .val (.long ((9218868437227405312 : Int64) ||| (fr <<< ((29 : Int32) &&& 0x3f).toInt64))), .second, .unset, .unset] [(.long ((0 : Int64) ||| (2139095040 : Int64)))])) _
        exact kt
      rw [show ((0 : Int64) ||| (2139095040 : Int64)) = (2139095040 : Int64) from by decide +kernel] at pre27
      have pre28 : ∀ t, Steps p.tables e below (T24.setTop (mkF m 141 #[.val (.int p1), .val (.int p2), .val (.long q3), .second, .val (.int (1 : Int32)), .val (.long (0 : Int64)), .second, .val (.long (9218868437227405312 : Int64)), .second, .val (.ref w1), .val (.long fr), .second, .val (.long ((9218868437227405312 : Int64) ||| (fr <<< ((29 : Int32) &&& 0x3f).toInt64))), .second, .val (.long ((2139095040 : Int64) ||| fr)), .second] [(.int (lcmpW fr (0 : Int64)))])) t → Steps p.tables e below (s₁.setTop (entryFrame m #[(.int p1), (.int p2), (.long q3)] maxLocals)) t := fun t kt => by
        refine pre27 _ ?_
        show Steps p.tables e below (T24.setTop (mkF m 106 #[.val (.int p1), .val (.int p2), .val (.long q3), .second, .val (.int (1 : Int32)), .val (.long (0 : Int64)), .second, .val (.long (9218868437227405312 : Int64)), .second, .val (.ref w1), .val (.long fr), .second, .val (.long ((9218868437227405312 : Int64) ||| (fr <<< ((29 : Int32) &&& 0x3f).toInt64))), .second, .unset, .unset] [(.long (2139095040 : Int64))])) _
        refine XS.lload X24.here hx rfl (hb hby at_106) rfl ?_
        show Steps p.tables e below (T24.setTop (mkF m 108 #[.val (.int p1), .val (.int p2), .val (.long q3), .second, .val (.int (1 : Int32)), .val (.long (0 : Int64)), .second, .val (.long (9218868437227405312 : Int64)), .second, .val (.ref w1), .val (.long fr), .second, .val (.long ((9218868437227405312 : Int64) ||| (fr <<< ((29 : Int32) &&& 0x3f).toInt64))), .second, .unset, .unset] [(.long fr), (.long (2139095040 : Int64))])) _
        refine XS.lor X24.here hx rfl (hb hby at_108) rfl ?_
        show Steps p.tables e below (T24.setTop (mkF m 109 #[.val (.int p1), .val (.int p2), .val (.long q3), .second, .val (.int (1 : Int32)), .val (.long (0 : Int64)), .second, .val (.long (9218868437227405312 : Int64)), .second, .val (.ref w1), .val (.long fr), .second, .val (.long ((9218868437227405312 : Int64) ||| (fr <<< ((29 : Int32) &&& 0x3f).toInt64))), .second, .unset, .unset] [(.long ((2139095040 : Int64) ||| fr))])) _
        refine XS.lstore X24.here hx rfl (hb hby at_109) rfl (l' := #[.val (.int p1), .val (.int p2), .val (.long q3), .second, .val (.int (1 : Int32)), .val (.long (0 : Int64)), .second, .val (.long (9218868437227405312 : Int64)), .second, .val (.ref w1), .val (.long fr), .second, .val (.long ((9218868437227405312 : Int64) ||| (fr <<< ((29 : Int32) &&& 0x3f).toInt64))), .second, .val (.long ((2139095040 : Int64) ||| fr)), .second]) rfl ?_
        show Steps p.tables e below (T24.setTop (mkF m 111 #[.val (.int p1), .val (.int p2), .val (.long q3), .second, .val (.int (1 : Int32)), .val (.long (0 : Int64)), .second, .val (.long (9218868437227405312 : Int64)), .second, .val (.ref w1), .val (.long fr), .second, .val (.long ((9218868437227405312 : Int64) ||| (fr <<< ((29 : Int32) &&& 0x3f).toInt64))), .second, .val (.long ((2139095040 : Int64) ||| fr)), .second] [])) _
        refine XS.goto X24.here hx rfl (pc0 := 111) (pc' := 137) rfl (hb hby at_111) (by decide) (by decide) ?_
        show Steps p.tables e below (T24.setTop (mkF m 137 #[.val (.int p1), .val (.int p2), .val (.long q3), .second, .val (.int (1 : Int32)), .val (.long (0 : Int64)), .second, .val (.long (9218868437227405312 : Int64)), .second, .val (.ref w1), .val (.long fr), .second, .val (.long ((9218868437227405312 : Int64) ||| (fr <<< ((29 : Int32) &&& 0x3f).toInt64))), .second, .val (.long ((2139095040 : Int64) ||| fr)), .second] [])) _
        refine XS.lload X24.here hx rfl (hb hby at_137) rfl ?_
        show Steps p.tables e below (T24.setTop (mkF m 139 #[.val (.int p1), .val (.int p2), .val (.long q3), .second, .val (.int (1 : Int32)), .val (.long (0 : Int64)), .second, .val (.long (9218868437227405312 : Int64)), .second, .val (.ref w1), .val (.long fr), .second, .val (.long ((9218868437227405312 : Int64) ||| (fr <<< ((29 : Int32) &&& 0x3f).toInt64))), .second, .val (.long ((2139095040 : Int64) ||| fr)), .second] [(.long fr)])) _
        refine XS.lconst X24.here hx rfl (hb hby at_139) ?_
        show Steps p.tables e below (T24.setTop (mkF m 140 #[.val (.int p1), .val (.int p2), .val (.long q3), .second, .val (.int (1 : Int32)), .val (.long (0 : Int64)), .second, .val (.long (9218868437227405312 : Int64)), .second, .val (.ref w1), .val (.long fr), .second, .val (.long ((9218868437227405312 : Int64) ||| (fr <<< ((29 : Int32) &&& 0x3f).toInt64))), .second, .val (.long ((2139095040 : Int64) ||| fr)), .second] [(.long (0 : Int64)), (.long fr)])) _
        refine XS.lcmp X24.here hx rfl (hb hby at_140) rfl ?_
        show Steps p.tables e below (T24.setTop (mkF m 141 #[.val (.int p1), .val (.int p2), .val (.long q3), .second, .val (.int (1 : Int32)), .val (.long (0 : Int64)), .second, .val (.long (9218868437227405312 : Int64)), .second, .val (.ref w1), .val (.long fr), .second, .val (.long ((9218868437227405312 : Int64) ||| (fr <<< ((29 : Int32) &&& 0x3f).toInt64))), .second, .val (.long ((2139095040 : Int64) ||| fr)), .second] [(.int (lcmpW fr (0 : Int64)))])) _
        exact kt
      rcases Decidable.em ((lcmpW fr (0 : Int64)) = (0 : Int32)) with hc141_29 | hc141_29
      ·
        obtain ⟨fs, hr, hrun, hended, hW, hsame⟩ := X24.leave (v := some (.int (1 : Int32))) (fun h => by rw [Bd.returns] at h; cases h)
        refine ⟨_, _, pre28 _ ?_, hrun, hended, _, _, rfl, ?_, ⟨_, rfl⟩, hW, hsame.mono (by decide) (by decide)⟩
        ·
          show Steps p.tables e below (T24.setTop (mkF m 141 #[.val (.int p1), .val (.int p2), .val (.long q3), .second, .val (.int (1 : Int32)), .val (.long (0 : Int64)), .second, .val (.long (9218868437227405312 : Int64)), .second, .val (.ref w1), .val (.long fr), .second, .val (.long ((9218868437227405312 : Int64) ||| (fr <<< ((29 : Int32) &&& 0x3f).toInt64))), .second, .val (.long ((2139095040 : Int64) ||| fr)), .second] [(.int (lcmpW fr (0 : Int64)))])) _
          refine XS.ifNo X24.here hx rfl (hb hby at_141) rfl ((if0 _ _).trans (teq hc141_29).2) ?_
          show Steps p.tables e below (T24.setTop (mkF m 144 #[.val (.int p1), .val (.int p2), .val (.long q3), .second, .val (.int (1 : Int32)), .val (.long (0 : Int64)), .second, .val (.long (9218868437227405312 : Int64)), .second, .val (.ref w1), .val (.long fr), .second, .val (.long ((9218868437227405312 : Int64) ||| (fr <<< ((29 : Int32) &&& 0x3f).toInt64))), .second, .val (.long ((2139095040 : Int64) ||| fr)), .second] [])) _
          refine XS.iconst X24.here hx rfl (hb hby at_144) ?_
          show Steps p.tables e below (T24.setTop (mkF m 145 #[.val (.int p1), .val (.int p2), .val (.long q3), .second, .val (.int (1 : Int32)), .val (.long (0 : Int64)), .second, .val (.long (9218868437227405312 : Int64)), .second, .val (.ref w1), .val (.long fr), .second, .val (.long ((9218868437227405312 : Int64) ||| (fr <<< ((29 : Int32) &&& 0x3f).toInt64))), .second, .val (.long ((2139095040 : Int64) ||| fr)), .second] [(.int (1 : Int32))])) _
          exact retN X24 hx (t := .boolean) Bd.returns (by simp) (hb hby at_145) hr
        ·
          show Q_rm0 Z p1 p2 q3 w0 w1 w2 h0 n0 (_) T24.heap (_)
          rw [e24]
          exact ⟨rfl, N0⟩
      ·
        obtain ⟨cq30, kq30, q30a, q30b, q30c⟩ := isOf hZ e24 E1
        obtain ⟨_, _, ⟨T30, L30, k30, n30⟩, -, X30, ⟨Lc30, hQ30, l30, y30, z30⟩, st30⟩ := X24.virtualBack hx (y := (⟨"com/example/chronotag/chronotag/codec/FloatFormat", "narrowNaN", "(J)J"⟩ : MethodName)) (z := (⟨"com/example/chronotag/chronotag/codec/FloatFormat", "narrowNaN", "(J)J"⟩ : MethodName)) hown (mvT hZ (hw _ (List.mem_of_getElem? (i := 7) rfl))) (mvT hZ (hw _ (List.mem_of_getElem? (i := 8) rfl))) (notFace_of_selects (args := #[]) (mvT hZ (hw _ (List.mem_of_getElem? (i := 10) rfl)))) (mvT hZ (hw _ (List.mem_of_getElem? (i := 10) rfl))) (mvT hZ (hw _ (List.mem_of_getElem? (i := 9) rfl))) (by decide) (backOf (W := 0) (rmF1 l Z a0 hw [] w1 ((9218868437227405312 : Int64) ||| (fr <<< ((29 : Int32) &&& 0x3f).toInt64)) h0 n0 Z0 F1w F1f) hZ (hw _ (List.mem_of_getElem? (i := 11) rfl)) (hw _ (List.mem_of_getElem? (i := 3) rfl)) (by decide) (by decide)) q30a q30c (g := (mkF m 150 #[.val (.int p1), .val (.int p2), .val (.long q3), .second, .val (.int (1 : Int32)), .val (.long (0 : Int64)), .second, .val (.long (9218868437227405312 : Int64)), .second, .val (.ref w1), .val (.long fr), .second, .val (.long ((9218868437227405312 : Int64) ||| (fr <<< ((29 : Int32) &&& 0x3f).toInt64))), .second, .val (.long ((2139095040 : Int64) ||| fr)), .second] [(.long ((9218868437227405312 : Int64) ||| (fr <<< ((29 : Int32) &&& 0x3f).toInt64))), (.ref w1)])) rfl (by rw [hml]; rfl) (Steps.refl _) (argsL := [(.long ((9218868437227405312 : Int64) ||| (fr <<< ((29 : Int32) &&& 0x3f).toInt64)))]) (rest := []) (lenOf own_pd0 rfl) rfl (by show 2 * 0 + _ ≤ _; exact Nat.le_of_eq rfl) (hb hby at_150) (fun _ _ => ⟨rfl, e24, (by decide : 0 + 0 ≤ _), (by decide : 0 + 0 ≤ _)⟩)
        dsimp only [Pt.U, Pt.locs, Pt.cells, Pt.slots] at X30 l30 y30 z30 st30 hQ30
        subst l30 y30 z30
        obtain ⟨rfl, N30q, eq30⟩ := hQ30
        have N30 := Fr.app N0 N30q
        obtain ⟨fs, hr, hrun, hended, hW, hsame⟩ := X30.leave (v := some (.int (1 : Int32))) (fun h => by rw [Bd.returns] at h; cases h)
        refine ⟨_, _, pre28 _ ?_, hrun, hended, _, _, rfl, ?_, ⟨_, rfl⟩, hW, hsame.mono (by decide) (by decide)⟩
        ·
          show Steps p.tables e below (T24.setTop (mkF m 141 #[.val (.int p1), .val (.int p2), .val (.long q3), .second, .val (.int (1 : Int32)), .val (.long (0 : Int64)), .second, .val (.long (9218868437227405312 : Int64)), .second, .val (.ref w1), .val (.long fr), .second, .val (.long ((9218868437227405312 : Int64) ||| (fr <<< ((29 : Int32) &&& 0x3f).toInt64))), .second, .val (.long ((2139095040 : Int64) ||| fr)), .second] [(.int (lcmpW fr (0 : Int64)))])) _
          refine XS.ifYes X24.here hx rfl (pc0 := 141) (pc' := 146) rfl (hb hby at_141) rfl ((if0 _ _).trans (feq hc141_29).2) (by decide) (by decide) ?_
          show Steps p.tables e below (T24.setTop (mkF m 146 #[.val (.int p1), .val (.int p2), .val (.long q3), .second, .val (.int (1 : Int32)), .val (.long (0 : Int64)), .second, .val (.long (9218868437227405312 : Int64)), .second, .val (.ref w1), .val (.long fr), .second, .val (.long ((9218868437227405312 : Int64) ||| (fr <<< ((29 : Int32) &&& 0x3f).toInt64))), .second, .val (.long ((2139095040 : Int64) ||| fr)), .second] [])) _
          refine XS.aload X24.here hx rfl (hb hby at_146) rfl rfl ?_
          show Steps p.tables e below (T24.setTop (mkF m 148 #[.val (.int p1), .val (.int p2), .val (.long q3), .second, .val (.int (1 : Int32)), .val (.long (0 : Int64)), .second, .val (.long (9218868437227405312 : Int64)), .second, .val (.ref w1), .val (.long fr), .second, .val (.long ((9218868437227405312 : Int64) ||| (fr <<< ((29 : Int32) &&& 0x3f).toInt64))), .second, .val (.long ((2139095040 : Int64) ||| fr)), .second] [(.ref w1)])) _
          refine XS.lload X24.here hx rfl (hb hby at_148) rfl ?_
          show Steps p.tables e below (T24.setTop (mkF m 150 #[.val (.int p1), .val (.int p2), .val (.long q3), .second, .val (.int (1 : Int32)), .val (.long (0 : Int64)), .second, .val (.long (9218868437227405312 : Int64)), .second, .val (.ref w1), .val (.long fr), .second, .val (.long ((9218868437227405312 : Int64) ||| (fr <<< ((29 : Int32) &&& 0x3f).toInt64))), .second, .val (.long ((2139095040 : Int64) ||| fr)), .second] [(.long ((9218868437227405312 : Int64) ||| (fr <<< ((29 : Int32) &&& 0x3f).toInt64))), (.ref w1)])) _
          refine st30.trans ?_
          show Steps p.tables e below (T30.setTop (mkF m 153 #[.val (.int p1), .val (.int p2), .val (.long q3), .second, .val (.int (1 : Int32)), .val (.long (0 : Int64)), .second, .val (.long (9218868437227405312 : Int64)), .second, .val (.ref w1), .val (.long fr), .second, .val (.long ((9218868437227405312 : Int64) ||| (fr <<< ((29 : Int32) &&& 0x3f).toInt64))), .second, .val (.long ((2139095040 : Int64) ||| fr)), .second] [(.long (((((((9218868437227405312 : Int64) ||| (fr <<< ((29 : Int32) &&& 0x3f).toInt64)).toUInt64 >>> ((63 : Int32) &&& 0x3f).toInt64.toUInt64).toInt64) <<< ((31 : Int32) &&& 0x3f).toInt64) ||| (2139095040 : Int64)) ||| (((((9218868437227405312 : Int64) ||| (fr <<< ((29 : Int32) &&& 0x3f).toInt64)) &&& (4503599627370495 : Int64)).toUInt64 >>> ((29 : Int32) &&& 0x3f).toInt64.toUInt64).toInt64)))])) _
          refine XS.lload X30.here hx rfl (hb hby at_153) rfl ?_
          show Steps p.tables e below (T30.setTop (mkF m 155 #[.val (.int p1), .val (.int p2), .val (.long q3), .second, .val (.int (1 : Int32)), .val (.long (0 : Int64)), .second, .val (.long (9218868437227405312 : Int64)), .second, .val (.ref w1), .val (.long fr), .second, .val (.long ((9218868437227405312 : Int64) ||| (fr <<< ((29 : Int32) &&& 0x3f).toInt64))), .second, .val (.long ((2139095040 : Int64) ||| fr)), .second] [(.long ((2139095040 : Int64) ||| fr)), (.long (((((((9218868437227405312 : Int64) ||| (fr <<< ((29 : Int32) &&& 0x3f).toInt64)).toUInt64 >>> ((63 : Int32) &&& 0x3f).toInt64.toUInt64).toInt64) <<< ((31 : Int32) &&& 0x3f).toInt64) ||| (2139095040 : Int64)) ||| (((((9218868437227405312 : Int64) ||| (fr <<< ((29 : Int32) &&& 0x3f).toInt64)) &&& (4503599627370495 : Int64)).toUInt64 >>> ((29 : Int32) &&& 0x3f).toInt64.toUInt64).toInt64)))])) _
          refine XS.lcmp X30.here hx rfl (hb hby at_155) rfl ?_
          show Steps p.tables e below (T30.setTop (mkF m 156 #[.val (.int p1), .val (.int p2), .val (.long q3), .second, .val (.int (1 : Int32)), .val (.long (0 : Int64)), .second, .val (.long (9218868437227405312 : Int64)), .second, .val (.ref w1), .val (.long fr), .second, .val (.long ((9218868437227405312 : Int64) ||| (fr <<< ((29 : Int32) &&& 0x3f).toInt64))), .second, .val (.long ((2139095040 : Int64) ||| fr)), .second] [(.int (lcmpW (((((((9218868437227405312 : Int64) ||| (fr <<< ((29 : Int32) &&& 0x3f).toInt64)).toUInt64 >>> ((63 : Int32) &&& 0x3f).toInt64.toUInt64).toInt64) <<< ((31 : Int32) &&& 0x3f).toInt64) ||| (2139095040 : Int64)) ||| (((((9218868437227405312 : Int64) ||| (fr <<< ((29 : Int32) &&& 0x3f).toInt64)) &&& (4503599627370495 : Int64)).toUInt64 >>> ((29 : Int32) &&& 0x3f).toInt64.toUInt64).toInt64)) ((2139095040 : Int64) ||| fr)))])) _
          refine XS.ifNo X30.here hx rfl (hb hby at_156) rfl ((if0 _ _).trans (teq ((lw_eq _ _).mpr (own_n_1_0 fr hf0 hf1))).2) ?_
          show Steps p.tables e below (T30.setTop (mkF m 159 #[.val (.int p1), .val (.int p2), .val (.long q3), .second, .val (.int (1 : Int32)), .val (.long (0 : Int64)), .second, .val (.long (9218868437227405312 : Int64)), .second, .val (.ref w1), .val (.long fr), .second, .val (.long ((9218868437227405312 : Int64) ||| (fr <<< ((29 : Int32) &&& 0x3f).toInt64))), .second, .val (.long ((2139095040 : Int64) ||| fr)), .second] [])) _
          refine XS.iconst X30.here hx rfl (hb hby at_159) ?_
          show Steps p.tables e below (T30.setTop (mkF m 160 #[.val (.int p1), .val (.int p2), .val (.long q3), .second, .val (.int (1 : Int32)), .val (.long (0 : Int64)), .second, .val (.long (9218868437227405312 : Int64)), .second, .val (.ref w1), .val (.long fr), .second, .val (.long ((9218868437227405312 : Int64) ||| (fr <<< ((29 : Int32) &&& 0x3f).toInt64))), .second, .val (.long ((2139095040 : Int64) ||| fr)), .second] [(.int (1 : Int32))])) _
          refine XS.goto X30.here hx rfl (pc0 := 160) (pc' := 164) rfl (hb hby at_160) (by decide) (by decide) ?_
          show Steps p.tables e below (T30.setTop (mkF m 164 #[.val (.int p1), .val (.int p2), .val (.long q3), .second, .val (.int (1 : Int32)), .val (.long (0 : Int64)), .second, .val (.long (9218868437227405312 : Int64)), .second, .val (.ref w1), .val (.long fr), .second, .val (.long ((9218868437227405312 : Int64) ||| (fr <<< ((29 : Int32) &&& 0x3f).toInt64))), .second, .val (.long ((2139095040 : Int64) ||| fr)), .second] [(.int (1 : Int32))])) _
          exact retN X30 hx (t := .boolean) Bd.returns (by simp) (hb hby at_164) hr
        ·
          show Q_rm0 Z p1 p2 q3 w0 w1 w2 h0 n0 (_) T30.heap (_)
          rw [eq30]
          exact ⟨rfl, N30⟩
    ·
      rw [hs1] at pre21
      have pre31 : ∀ t, Steps p.tables e below (s₁.setTop (mkF m 19 #[.val (.int p1), .val (.int p2), .val (.long q3), .second, .val (.int (1 : Int32)), .val (.long (1 : Int64)), .second, .unset, .unset, .unset, .unset, .unset, .unset, .unset, .unset, .unset] [(.long ((1 : Int64) <<< ((63 : Int32) &&& 0x3f).toInt64))])) t → Steps p.tables e below (s₁.setTop (entryFrame m #[(.int p1), (.int p2), (.long q3)] maxLocals)) t := fun t kt => by
        refine pre21 _ ?_
        show Steps p.tables e below (s₁.setTop (mkF m 14 #[.val (.int p1), .val (.int p2), .val (.long q3), .second, .val (.int (1 : Int32)), .val (.long (1 : Int64)), .second, .unset, .unset, .unset, .unset, .unset, .unset, .unset, .unset, .unset] [])) _
        refine XS.lload X0.here hx rfl (hb hby at_14) rfl ?_
        show Steps p.tables e below (s₁.setTop (mkF m 16 #[.val (.int p1), .val (.int p2), .val (.long q3), .second, .val (.int (1 : Int32)), .val (.long (1 : Int64)), .second, .unset, .unset, .unset, .unset, .unset, .unset, .unset, .unset, .unset] [(.long (1 : Int64))])) _
        refine XS.bipush X0.here hx rfl (hb hby at_16) ?_
        show Steps p.tables e below (s₁.setTop (mkF m 18 #[.val (.int p1), .val (.int p2), .val (.long q3), .second, .val (.int (1 : Int32)), .val (.long (1 : Int64)), .second, .unset, .unset, .unset, .unset, .unset, .unset, .unset, .unset, .unset] [(.int (63 : Int32)), (.long (1 : Int64))])) _
        refine XS.lshl X0.here hx rfl (hb hby at_18) rfl ?_
        show Steps p.tables e below (s₁.setTop (mkF m 19 #[.val (.int p1), .val (.int p2), .val (.long q3), .second, .val (.int (1 : Int32)), .val (.long (1 : Int64)), .second, .unset, .unset, .unset, .unset, .unset, .unset, .unset, .unset, .unset] [(.long ((1 : Int64) <<< ((63 : Int32) &&& 0x3f).toInt64))])) _
        exact kt
      rw [show ((1 : Int64) <<< ((63 : Int32) &&& 0x3f).toInt64) = (-9223372036854775808 : Int64) from by decide +kernel] at pre31
      have pre32 : ∀ t, Steps p.tables e below (s₁.setTop (mkF m 23 #[.val (.int p1), .val (.int p2), .val (.long q3), .second, .val (.int (1 : Int32)), .val (.long (1 : Int64)), .second, .unset, .unset, .unset, .unset, .unset, .unset, .unset, .unset, .unset] [(.long ((-9223372036854775808 : Int64) ||| (9218868437227405312 : Int64)))])) t → Steps p.tables e below (s₁.setTop (entryFrame m #[(.int p1), (.int p2), (.long q3)] maxLocals)) t := fun t kt => by
        refine pre31 _ ?_
        show Steps p.tables e below (s₁.setTop (mkF m 19 #[.val (.int p1), .val (.int p2), .val (.long q3), .second, .val (.int (1 : Int32)), .val (.long (1 : Int64)), .second, .unset, .unset, .unset, .unset, .unset, .unset, .unset, .unset, .unset] [(.long (-9223372036854775808 : Int64))])) _
        refine X0.ldc2Long hx hown (mvT hZ (hw _ (List.mem_of_getElem? (i := 1) rfl))) (g := (mkF m 19 #[.val (.int p1), .val (.int p2), .val (.long q3), .second, .val (.int (1 : Int32)), .val (.long (1 : Int64)), .second, .unset, .unset, .unset, .unset, .unset, .unset, .unset, .unset, .unset] [(.long (-9223372036854775808 : Int64))])) rfl (hb hby at_19) _ ?_
        show Steps p.tables e below (s₁.setTop (mkF m 22 #[.val (.int p1), .val (.int p2), .val (.long q3), .second, .val (.int (1 : Int32)), .val (.long (1 : Int64)), .second, .unset, .unset, .unset, .unset, .unset, .unset, .unset, .unset, .unset] [(.long (9218868437227405312 : Int64)), (.long (-9223372036854775808 : Int64))])) _
        refine XS.lor X0.here hx rfl (hb hby at_22) rfl ?_
        show Steps p.tables e below (s₁.setTop (mkF m 23 #[.val (.int p1), .val (.int p2), .val (.long q3), .second, .val (.int (1 : Int32)), .val (.long (1 : Int64)), .second, .unset, .unset, .unset, .unset, .unset, .unset, .unset, .unset, .unset] [(.long ((-9223372036854775808 : Int64) ||| (9218868437227405312 : Int64)))])) _
        exact kt
      rw [show ((-9223372036854775808 : Int64) ||| (9218868437227405312 : Int64)) = (-4503599627370496 : Int64) from by decide +kernel] at pre32
      obtain ⟨T33, X33, e33, st33⟩ := getS2 X0 hx hZ hown (host := "") (Or.inl (hw _ (List.mem_of_getElem? (i := 17) rfl))) Via.refl e0 S1 (g := (mkF m 75 #[.val (.int p1), .val (.int p2), .val (.long q3), .second, .val (.int (1 : Int32)), .val (.long (1 : Int64)), .second, .val (.long (-4503599627370496 : Int64)), .second, .unset, .unset, .unset, .unset, .unset, .unset, .unset] [])) rfl (hb hby at_75)
      have pre34 : ∀ t, Steps p.tables e below (T33.setTop (mkF m 87 #[.val (.int p1), .val (.int p2), .val (.long q3), .second, .val (.int (1 : Int32)), .val (.long (1 : Int64)), .second, .val (.long (-4503599627370496 : Int64)), .second, .val (.ref w1), .val (.long (q3 &&& (8388607 : Int64))), .second, .unset, .unset, .unset, .unset] [])) t → Steps p.tables e below (s₁.setTop (entryFrame m #[(.int p1), (.int p2), (.long q3)] maxLocals)) t := fun t kt => by
        refine pre32 _ ?_
        show Steps p.tables e below (s₁.setTop (mkF m 23 #[.val (.int p1), .val (.int p2), .val (.long q3), .second, .val (.int (1 : Int32)), .val (.long (1 : Int64)), .second, .unset, .unset, .unset, .unset, .unset, .unset, .unset, .unset, .unset] [(.long (-4503599627370496 : Int64))])) _
        refine XS.lstore X0.here hx rfl (hb hby at_23) rfl (l' := #[.val (.int p1), .val (.int p2), .val (.long q3), .second, .val (.int (1 : Int32)), .val (.long (1 : Int64)), .second, .val (.long (-4503599627370496 : Int64)), .second, .unset, .unset, .unset, .unset, .unset, .unset, .unset]) rfl ?_
        show Steps p.tables e below (s₁.setTop (mkF m 25 #[.val (.int p1), .val (.int p2), .val (.long q3), .second, .val (.int (1 : Int32)), .val (.long (1 : Int64)), .second, .val (.long (-4503599627370496 : Int64)), .second, .unset, .unset, .unset, .unset, .unset, .unset, .unset] [])) _
        refine XS.iload X0.here hx rfl (hb hby at_25) rfl ?_
        show Steps p.tables e below (s₁.setTop (mkF m 27 #[.val (.int p1), .val (.int p2), .val (.long q3), .second, .val (.int (1 : Int32)), .val (.long (1 : Int64)), .second, .val (.long (-4503599627370496 : Int64)), .second, .unset, .unset, .unset, .unset, .unset, .unset, .unset] [(.int (1 : Int32))])) _
        refine XS.ifYes X0.here hx rfl (pc0 := 27) (pc' := 69) rfl (hb hby at_27) rfl ((if0 _ _).trans (feq (by decide : ¬ ((1 : Int32) = (0 : Int32)))).2) (by decide) (by decide) ?_
        show Steps p.tables e below (s₁.setTop (mkF m 69 #[.val (.int p1), .val (.int p2), .val (.long q3), .second, .val (.int (1 : Int32)), .val (.long (1 : Int64)), .second, .val (.long (-4503599627370496 : Int64)), .second, .unset, .unset, .unset, .unset, .unset, .unset, .unset] [])) _
        refine XS.iload X0.here hx rfl (hb hby at_69) rfl ?_
        show Steps p.tables e below (s₁.setTop (mkF m 71 #[.val (.int p1), .val (.int p2), .val (.long q3), .second, .val (.int (1 : Int32)), .val (.long (1 : Int64)), .second, .val (.long (-4503599627370496 : Int64)), .second, .unset, .unset, .unset, .unset, .unset, .unset, .unset] [(.int (1 : Int32))])) _
        refine XS.iconst X0.here hx rfl (hb hby at_71) ?_
        show Steps p.tables e below (s₁.setTop (mkF m 72 #[.val (.int p1), .val (.int p2), .val (.long q3), .second, .val (.int (1 : Int32)), .val (.long (1 : Int64)), .second, .val (.long (-4503599627370496 : Int64)), .second, .unset, .unset, .unset, .unset, .unset, .unset, .unset] [(.int (1 : Int32)), (.int (1 : Int32))])) _
        refine XS.icmpNo X0.here hx rfl (hb hby at_72) rfl (teq (by decide : (1 : Int32) = (1 : Int32))).2 ?_
        show Steps p.tables e below (s₁.setTop (mkF m 75 #[.val (.int p1), .val (.int p2), .val (.long q3), .second, .val (.int (1 : Int32)), .val (.long (1 : Int64)), .second, .val (.long (-4503599627370496 : Int64)), .second, .unset, .unset, .unset, .unset, .unset, .unset, .unset] [])) _
        refine st33 _ ?_
        show Steps p.tables e below (T33.setTop (mkF m 78 #[.val (.int p1), .val (.int p2), .val (.long q3), .second, .val (.int (1 : Int32)), .val (.long (1 : Int64)), .second, .val (.long (-4503599627370496 : Int64)), .second, .unset, .unset, .unset, .unset, .unset, .unset, .unset] [(.ref w1)])) _
        refine XS.astore X33.here hx rfl (hb hby at_78) rfl rfl (l' := #[.val (.int p1), .val (.int p2), .val (.long q3), .second, .val (.int (1 : Int32)), .val (.long (1 : Int64)), .second, .val (.long (-4503599627370496 : Int64)), .second, .val (.ref w1), .unset, .unset, .unset, .unset, .unset, .unset]) rfl ?_
        show Steps p.tables e below (T33.setTop (mkF m 80 #[.val (.int p1), .val (.int p2), .val (.long q3), .second, .val (.int (1 : Int32)), .val (.long (1 : Int64)), .second, .val (.long (-4503599627370496 : Int64)), .second, .val (.ref w1), .unset, .unset, .unset, .unset, .unset, .unset] [])) _
        refine XS.lloadN X33.here hx rfl (hb hby at_80) rfl ?_
        show Steps p.tables e below (T33.setTop (mkF m 81 #[.val (.int p1), .val (.int p2), .val (.long q3), .second, .val (.int (1 : Int32)), .val (.long (1 : Int64)), .second, .val (.long (-4503599627370496 : Int64)), .second, .val (.ref w1), .unset, .unset, .unset, .unset, .unset, .unset] [(.long q3)])) _
        refine X33.ldc2Long hx hown (mvT hZ (hw _ (List.mem_of_getElem? (i := 19) rfl))) (g := (mkF m 81 #[.val (.int p1), .val (.int p2), .val (.long q3), .second, .val (.int (1 : Int32)), .val (.long (1 : Int64)), .second, .val (.long (-4503599627370496 : Int64)), .second, .val (.ref w1), .unset, .unset, .unset, .unset, .unset, .unset] [(.long q3)])) rfl (hb hby at_81) _ ?_
        show Steps p.tables e below (T33.setTop (mkF m 84 #[.val (.int p1), .val (.int p2), .val (.long q3), .second, .val (.int (1 : Int32)), .val (.long (1 : Int64)), .second, .val (.long (-4503599627370496 : Int64)), .second, .val (.ref w1), .unset, .unset, .unset, .unset, .unset, .unset] [(.long (8388607 : Int64)), (.long q3)])) _
        refine XS.land X33.here hx rfl (hb hby at_84) rfl ?_
        show Steps p.tables e below (T33.setTop (mkF m 85 #[.val (.int p1), .val (.int p2), .val (.long q3), .second, .val (.int (1 : Int32)), .val (.long (1 : Int64)), .second, .val (.long (-4503599627370496 : Int64)), .second, .val (.ref w1), .unset, .unset, .unset, .unset, .unset, .unset] [(.long (q3 &&& (8388607 : Int64)))])) _
        refine XS.lstore X33.here hx rfl (hb hby at_85) rfl (l' := #[.val (.int p1), .val (.int p2), .val (.long q3), .second, .val (.int (1 : Int32)), .val (.long (1 : Int64)), .second, .val (.long (-4503599627370496 : Int64)), .second, .val (.ref w1), .val (.long (q3 &&& (8388607 : Int64))), .second, .unset, .unset, .unset, .unset]) rfl ?_
        show Steps p.tables e below (T33.setTop (mkF m 87 #[.val (.int p1), .val (.int p2), .val (.long q3), .second, .val (.int (1 : Int32)), .val (.long (1 : Int64)), .second, .val (.long (-4503599627370496 : Int64)), .second, .val (.ref w1), .val (.long (q3 &&& (8388607 : Int64))), .second, .unset, .unset, .unset, .unset] [])) _
        exact kt
      obtain ⟨fr, hfr⟩ : ∃ z, z = (q3 &&& (8388607 : Int64)) := ⟨_, rfl⟩
      rw [← hfr] at pre34
      have hm := c_maskL q3 (8388607 : Int64) 23 (by decide) (by decide)
      rw [← hfr] at hm
      have hf0 : 0 ≤ fr.toInt := by omega
      have hf1 : fr.toInt < 8388608 := by omega
      have pre35 : ∀ t, Steps p.tables e below (T33.setTop (mkF m 102 #[.val (.int p1), .val (.int p2), .val (.long q3), .second, .val (.int (1 : Int32)), .val (.long (1 : Int64)), .second, .val (.long (-4503599627370496 : Int64)), .second, .val (.ref w1), .val (.long fr), .second, .val (.long ((-4503599627370496 : Int64) ||| (fr <<< ((29 : Int32) &&& 0x3f).toInt64))), .second, .unset, .unset] [(.long ((1 : Int64) <<< ((31 : Int32) &&& 0x3f).toInt64))])) t → Steps p.tables e below (s₁.setTop (entryFrame m #[(.int p1), (.int p2), (.long q3)] maxLocals)) t := fun t kt => by
        refine pre34 _ ?_
        show Steps p.tables e below (T33.setTop (mkF m 87 #[.val (.int p1), .val (.int p2), .val (.long q3), .second, .val (.int (1 : Int32)), .val (.long (1 : Int64)), .second, .val (.long (-4503599627370496 : Int64)), .second, .val (.ref w1), .val (.long fr), .second, .unset, .unset, .unset, .unset] [])) _
        refine XS.lload X33.here hx rfl (hb hby at_87) rfl ?_
        show Steps p.tables e below (T33.setTop (mkF m 89 #[.val (.int p1), .val (.int p2), .val (.long q3), .second, .val (.int (1 : Int32)), .val (.long (1 : Int64)), .second, .val (.long (-4503599627370496 : Int64)), .second, .val (.ref w1), .val (.long fr), .second, .unset, .unset, .unset, .unset] [(.long (-4503599627370496 : Int64))])) _
        refine XS.lload X33.here hx rfl (hb hby at_89) rfl ?_
        show Steps p.tables e below (T33.setTop (mkF m 91 #[.val (.int p1), .val (.int p2), .val (.long q3), .second, .val (.int (1 : Int32)), .val (.long (1 : Int64)), .second, .val (.long (-4503599627370496 : Int64)), .second, .val (.ref w1), .val (.long fr), .second, .unset, .unset, .unset, .unset] [(.long fr), (.long (-4503599627370496 : Int64))])) _
        refine XS.bipush X33.here hx rfl (hb hby at_91) ?_
        show Steps p.tables e below (T33.setTop (mkF m 93 #[.val (.int p1), .val (.int p2), .val (.long q3), .second, .val (.int (1 : Int32)), .val (.long (1 : Int64)), .second, .val (.long (-4503599627370496 : Int64)), .second, .val (.ref w1), .val (.long fr), .second, .unset, .unset, .unset, .unset] [(.int (29 : Int32)), (.long fr), (.long (-4503599627370496 : Int64))])) _
        refine XS.lshl X33.here hx rfl (hb hby at_93) rfl ?_
        show Steps p.tables e below (T33.setTop (mkF m 94 #[.val (.int p1), .val (.int p2), .val (.long q3), .second, .val (.int (1 : Int32)), .val (.long (1 : Int64)), .second, .val (.long (-4503599627370496 : Int64)), .second, .val (.ref w1), .val (.long fr), .second, .unset, .unset, .unset, .unset] [(.long (fr <<< ((29 : Int32) &&& 0x3f).toInt64)), (.long (-4503599627370496 : Int64))])) _
        refine XS.lor X33.here hx rfl (hb hby at_94) rfl ?_
        show Steps p.tables e below (T33.setTop (mkF m 95 #[.val (.int p1), .val (.int p2), .val (.long q3), .second, .val (.int (1 : Int32)), .val (.long (1 : Int64)), .second, .val (.long (-4503599627370496 : Int64)), .second, .val (.ref w1), .val (.long fr), .second, .unset, .unset, .unset, .unset] [(.long ((-4503599627370496 : Int64) ||| (fr <<< ((29 : Int32) &&& 0x3f).toInt64)))])) _
        refine XS.lstore X33.here hx rfl (hb hby at_95) rfl (l' := #[.val (.int p1), .val (.int p2), .val (.long q3), .second, .val (.int (1 : Int32)), .val (.long (1 : Int64)), .second, .val (.long (-4503599627370496 : Int64)), .second, .val (.ref w1), .val (.long fr), .second, .val (.long ((-4503599627370496 : Int64) ||| (fr <<< ((29 : Int32) &&& 0x3f).toInt64))), .second, .unset, .unset]) rfl ?_
        show Steps p.tables e below (T33.setTop (mkF m 97 #[.val (.int p1), .val (.int p2), .val (.long q3), .second, .val (.int (1 : Int32)), .val (.long (1 : Int64)), .second, .val (.long (-4503599627370496 : Int64)), .second, .val (.ref w1), .val (.long fr), .second, .val (.long ((-4503599627370496 : Int64) ||| (fr <<< ((29 : Int32) &&& 0x3f).toInt64))), .second, .unset, .unset] [])) _
        refine XS.lload X33.here hx rfl (hb hby at_97) rfl ?_
        show Steps p.tables e below (T33.setTop (mkF m 99 #[.val (.int p1), .val (.int p2), .val (.long q3), .second, .val (.int (1 : Int32)), .val (.long (1 : Int64)), .second, .val (.long (-4503599627370496 : Int64)), .second, .val (.ref w1), .val (.long fr), .second, .val (.long ((-4503599627370496 : Int64) ||| (fr <<< ((29 : Int32) &&& 0x3f).toInt64))), .second, .unset, .unset] [(.long (1 : Int64))])) _
        refine XS.bipush X33.here hx rfl (hb hby at_99) ?_
        show Steps p.tables e below (T33.setTop (mkF m 101 #[.val (.int p1), .val (.int p2), .val (.long q3), .second, .val (.int (1 : Int32)), .val (.long (1 : Int64)), .second, .val (.long (-4503599627370496 : Int64)), .second, .val (.ref w1), .val (.long fr), .second, .val (.long ((-4503599627370496 : Int64) ||| (fr <<< ((29 : Int32) &&& 0x3f).toInt64))), .second, .unset, .unset] [(.int (31 : Int32)), (.long (1 : Int64))])) _
        refine XS.lshl X33.here hx rfl (hb hby at_101) rfl ?_
        show Steps p.tables e below (T33.setTop (mkF m 102 #[.val (.int p1), .val (.int p2), .val (.long q3), .second, .val (.int (1 : Int32)), .val (.long (1 : Int64)), .second, .val (.long (-4503599627370496 : Int64)), .second, .val (.ref w1), .val (.long fr), .second, .val (.long ((-4503599627370496 : Int64) ||| (fr <<< ((29 : Int32) &&& 0x3f).toInt64))), .second, .unset, .unset] [(.long ((1 : Int64) <<< ((31 : Int32) &&& 0x3f).toInt64))])) _
        exact kt
      rw [show ((1 : Int64) <<< ((31 : Int32) &&& 0x3f).toInt64) = (2147483648 : Int64) from by decide +kernel] at pre35
      have pre36 : ∀ t, Steps p.tables e below (T33.setTop (mkF m 106 #[.val (.int p1), .val (.int p2), .val (.long q3), .second, .val (.int (1 : Int32)), .val (.long (1 : Int64)), .second, .val (.long (-4503599627370496 : Int64)), .second, .val (.ref w1), .val (.long fr), .second, .val (.long ((-4503599627370496 : Int64) ||| (fr <<< ((29 : Int32) &&& 0x3f).toInt64))), .second, .unset, .unset] [(.long ((2147483648 : Int64) ||| (2139095040 : Int64)))])) t → Steps p.tables e below (s₁.setTop (entryFrame m #[(.int p1), (.int p2), (.long q3)] maxLocals)) t := fun t kt => by
        refine pre35 _ ?_
        show Steps p.tables e below (T33.setTop (mkF m 102 #[.val (.int p1), .val (.int p2), .val (.long q3), .second, .val (.int (1 : Int32)), .val (.long (1 : Int64)), .second, .val (.long (-4503599627370496 : Int64)), .second, .val (.ref w1), .val (.long fr), .second, .val (.long ((-4503599627370496 : Int64) ||| (fr <<< ((29 : Int32) &&& 0x3f).toInt64))), .second, .unset, .unset] [(.long (2147483648 : Int64))])) _
        refine X33.ldc2Long hx hown (mvT hZ (hw _ (List.mem_of_getElem? (i := 20) rfl))) (g := (mkF m 102 #[.val (.int p1), .val (.int p2), .val (.long q3), .second, .val (.int (1 : Int32)), .val (.long (1 : Int64)), .second, .val (.long (-4503599627370496 : Int64)), .second, .val (.ref w1), .val (.long fr), .second, .val (.long ((-4503599627370496 : Int64) ||| (fr <<< ((29 : Int32) &&& 0x3f).toInt64))), .second, .unset, .unset] [(.long (2147483648 : Int64))])) rfl (hb hby at_102) _ ?_
        show Steps p.tables e below (T33.setTop (mkF m 105 #[.val (.int p1), .val (.int p2), .val (.long q3), .second, .val (.int (1 : Int32)), .val (.long (1 : Int64)), .second, .val (.long (-4503599627370496 : Int64)), .second, .val (.ref w1), .val (.long fr), .second, .val (.long ((-4503599627370496 : Int64) ||| (fr <<< ((29 : Int32) &&& 0x3f).toInt64))), .second, .unset, .unset] [(.long (2139095040 : Int64)), (.long (2147483648 : Int64))])) _
        refine XS.lor X33.here hx rfl (hb hby at_105) rfl ?_
        show Steps p.tables e below (T33.setTop (mkF m 106 #[.val (.int p1), .val (.int p2), .val (.long q3), .second, .val (.int (1 : Int32)), .val (.long (1 : Int64)), .second, .val (.long (-4503599627370496 : Int64)), .second, .val (.ref w1), .val (.long fr), .second, .val (.long ((-4503599627370496 : Int64) ||| (fr <<< ((29 : Int32) &&& 0x3f).toInt64))), .second, .unset, .unset] [(.long ((2147483648 : Int64) ||| (2139095040 : Int64)))])) _
        exact kt
      rw [show ((2147483648 : Int64) ||| (2139095040 : Int64)) = (4286578688 : Int64) from by decide +kernel] at pre36
      have pre37 : ∀ t, Steps p.tables e below (T33.setTop (mkF m 141 #[.val (.int p1), .val (.int p2), .val (.long q3), .second, .val (.int (1 : Int32)), .val (.long (1 : Int64)), .second, .val (.long (-4503599627370496 : Int64)), .second, .val (.ref w1), .val (.long fr), .second, .val (.long ((-4503599627370496 : Int64) ||| (fr <<< ((29 : Int32) &&& 0x3f).toInt64))), .second, .val (.long ((4286578688 : Int64) ||| fr)), .second] [(.int (lcmpW fr (0 : Int64)))])) t → Steps p.tables e below (s₁.setTop (entryFrame m #[(.int p1), (.int p2), (.long q3)] maxLocals)) t := fun t kt => by
        refine pre36 _ ?_
        show Steps p.tables e below (T33.setTop (mkF m 106 #[.val (.int p1), .val (.int p2), .val (.long q3), .second, .val (.int (1 : Int32)), .val (.long (1 : Int64)), .second, .val (.long (-4503599627370496 : Int64)), .second, .val (.ref w1), .val (.long fr), .second, .val (.long ((-4503599627370496 : Int64) ||| (fr <<< ((29 : Int32) &&& 0x3f).toInt64))), .second, .unset, .unset] [(.long (4286578688 : Int64))])) _
        refine XS.lload X33.here hx rfl (hb hby at_106) rfl ?_
        show Steps p.tables e below (T33.setTop (mkF m 108 #[.val (.int p1), .val (.int p2), .val (.long q3), .second, .val (.int (1 : Int32)), .val (.long (1 : Int64)), .second, .val (.long (-4503599627370496 : Int64)), .second, .val (.ref w1), .val (.long fr), .second, .val (.long ((-4503599627370496 : Int64) ||| (fr <<< ((29 : Int32) &&& 0x3f).toInt64))), .second, .unset, .unset] [(.long fr), (.long (4286578688 : Int64))])) _
        refine XS.lor X33.here hx rfl (hb hby at_108) rfl ?_
        show Steps p.tables e below (T33.setTop (mkF m 109 #[.val (.int p1), .val (.int p2), .val (.long q3), .second, .val (.int (1 : Int32)), .val (.long (1 : Int64)), .second, .val (.long (-4503599627370496 : Int64)), .second, .val (.ref w1), .val (.long fr), .second, .val (.long ((-4503599627370496 : Int64) ||| (fr <<< ((29 : Int32) &&& 0x3f).toInt64))), .second, .unset, .unset] [(.long ((4286578688 : Int64) ||| fr))])) _
        refine XS.lstore X33.here hx rfl (hb hby at_109) rfl (l' := #[.val (.int p1), .val (.int p2), .val (.long q3), .second, .val (.int (1 : Int32)), .val (.long (1 : Int64)), .second, .val (.long (-4503599627370496 : Int64)), .second, .val (.ref w1), .val (.long fr), .second, .val (.long ((-4503599627370496 : Int64) ||| (fr <<< ((29 : Int32) &&& 0x3f).toInt64))), .second, .val (.long ((4286578688 : Int64) ||| fr)), .second]) rfl ?_
        show Steps p.tables e below (T33.setTop (mkF m 111 #[.val (.int p1), .val (.int p2), .val (.long q3), .second, .val (.int (1 : Int32)), .val (.long (1 : Int64)), .second, .val (.long (-4503599627370496 : Int64)), .second, .val (.ref w1), .val (.long fr), .second, .val (.long ((-4503599627370496 : Int64) ||| (fr <<< ((29 : Int32) &&& 0x3f).toInt64))), .second, .val (.long ((4286578688 : Int64) ||| fr)), .second] [])) _
        refine XS.goto X33.here hx rfl (pc0 := 111) (pc' := 137) rfl (hb hby at_111) (by decide) (by decide) ?_
        show Steps p.tables e below (T33.setTop (mkF m 137 #[.val (.int p1), .val (.int p2), .val (.long q3), .second, .val (.int (1 : Int32)), .val (.long (1 : Int64)), .second, .val (.long (-4503599627370496 : Int64)), .second, .val (.ref w1), .val (.long fr), .second, .val (.long ((-4503599627370496 : Int64) ||| (fr <<< ((29 : Int32) &&& 0x3f).toInt64))), .second, .val (.long ((4286578688 : Int64) ||| fr)), .second] [])) _
        refine XS.lload X33.here hx rfl (hb hby at_137) rfl ?_
        show Steps p.tables e below (T33.setTop (mkF m 139 #[.val (.int p1), .val (.int p2), .val (.long q3), .second, .val (.int (1 : Int32)), .val (.long (1 : Int64)), .second, .val (.long (-4503599627370496 : Int64)), .second, .val (.ref w1), .val (.long fr), .second, .val (.long ((-4503599627370496 : Int64) ||| (fr <<< ((29 : Int32) &&& 0x3f).toInt64))), .second, .val (.long ((4286578688 : Int64) ||| fr)), .second] [(.long fr)])) _
        refine XS.lconst X33.here hx rfl (hb hby at_139) ?_
        show Steps p.tables e below (T33.setTop (mkF m 140 #[.val (.int p1), .val (.int p2), .val (.long q3), .second, .val (.int (1 : Int32)), .val (.long (1 : Int64)), .second, .val (.long (-4503599627370496 : Int64)), .second, .val (.ref w1), .val (.long fr), .second, .val (.long ((-4503599627370496 : Int64) ||| (fr <<< ((29 : Int32) &&& 0x3f).toInt64))), .second, .val (.long ((4286578688 : Int64) ||| fr)), .second] [(.long (0 : Int64)), (.long fr)])) _
        refine XS.lcmp X33.here hx rfl (hb hby at_140) rfl ?_
        show Steps p.tables e below (T33.setTop (mkF m 141 #[.val (.int p1), .val (.int p2), .val (.long q3), .second, .val (.int (1 : Int32)), .val (.long (1 : Int64)), .second, .val (.long (-4503599627370496 : Int64)), .second, .val (.ref w1), .val (.long fr), .second, .val (.long ((-4503599627370496 : Int64) ||| (fr <<< ((29 : Int32) &&& 0x3f).toInt64))), .second, .val (.long ((4286578688 : Int64) ||| fr)), .second] [(.int (lcmpW fr (0 : Int64)))])) _
        exact kt
      rcases Decidable.em ((lcmpW fr (0 : Int64)) = (0 : Int32)) with hc141_38 | hc141_38
      ·
        obtain ⟨fs, hr, hrun, hended, hW, hsame⟩ := X33.leave (v := some (.int (1 : Int32))) (fun h => by rw [Bd.returns] at h; cases h)
        refine ⟨_, _, pre37 _ ?_, hrun, hended, _, _, rfl, ?_, ⟨_, rfl⟩, hW, hsame.mono (by decide) (by decide)⟩
        ·
          show Steps p.tables e below (T33.setTop (mkF m 141 #[.val (.int p1), .val (.int p2), .val (.long q3), .second, .val (.int (1 : Int32)), .val (.long (1 : Int64)), .second, .val (.long (-4503599627370496 : Int64)), .second, .val (.ref w1), .val (.long fr), .second, .val (.long ((-4503599627370496 : Int64) ||| (fr <<< ((29 : Int32) &&& 0x3f).toInt64))), .second, .val (.long ((4286578688 : Int64) ||| fr)), .second] [(.int (lcmpW fr (0 : Int64)))])) _
          refine XS.ifNo X33.here hx rfl (hb hby at_141) rfl ((if0 _ _).trans (teq hc141_38).2) ?_
          show Steps p.tables e below (T33.setTop (mkF m 144 #[.val (.int p1), .val (.int p2), .val (.long q3), .second, .val (.int (1 : Int32)), .val (.long (1 : Int64)), .second, .val (.long (-4503599627370496 : Int64)), .second, .val (.ref w1), .val (.long fr), .second, .val (.long ((-4503599627370496 : Int64) ||| (fr <<< ((29 : Int32) &&& 0x3f).toInt64))), .second, .val (.long ((4286578688 : Int64) ||| fr)), .second] [])) _
          refine XS.iconst X33.here hx rfl (hb hby at_144) ?_
          show Steps p.tables e below (T33.setTop (mkF m 145 #[.val (.int p1), .val (.int p2), .val (.long q3), .second, .val (.int (1 : Int32)), .val (.long (1 : Int64)), .second, .val (.long (-4503599627370496 : Int64)), .second, .val (.ref w1), .val (.long fr), .second, .val (.long ((-4503599627370496 : Int64) ||| (fr <<< ((29 : Int32) &&& 0x3f).toInt64))), .second, .val (.long ((4286578688 : Int64) ||| fr)), .second] [(.int (1 : Int32))])) _
          exact retN X33 hx (t := .boolean) Bd.returns (by simp) (hb hby at_145) hr
        ·
          show Q_rm0 Z p1 p2 q3 w0 w1 w2 h0 n0 (_) T33.heap (_)
          rw [e33]
          exact ⟨rfl, N0⟩
      ·
        obtain ⟨cq39, kq39, q39a, q39b, q39c⟩ := isOf hZ e33 E1
        obtain ⟨_, _, ⟨T39, L39, k39, n39⟩, -, X39, ⟨Lc39, hQ39, l39, y39, z39⟩, st39⟩ := X33.virtualBack hx (y := (⟨"com/example/chronotag/chronotag/codec/FloatFormat", "narrowNaN", "(J)J"⟩ : MethodName)) (z := (⟨"com/example/chronotag/chronotag/codec/FloatFormat", "narrowNaN", "(J)J"⟩ : MethodName)) hown (mvT hZ (hw _ (List.mem_of_getElem? (i := 7) rfl))) (mvT hZ (hw _ (List.mem_of_getElem? (i := 8) rfl))) (notFace_of_selects (args := #[]) (mvT hZ (hw _ (List.mem_of_getElem? (i := 10) rfl)))) (mvT hZ (hw _ (List.mem_of_getElem? (i := 10) rfl))) (mvT hZ (hw _ (List.mem_of_getElem? (i := 9) rfl))) (by decide) (backOf (W := 0) (rmF1 l Z a0 hw [] w1 ((-4503599627370496 : Int64) ||| (fr <<< ((29 : Int32) &&& 0x3f).toInt64)) h0 n0 Z0 F1w F1f) hZ (hw _ (List.mem_of_getElem? (i := 11) rfl)) (hw _ (List.mem_of_getElem? (i := 3) rfl)) (by decide) (by decide)) q39a q39c (g := (mkF m 150 #[.val (.int p1), .val (.int p2), .val (.long q3), .second, .val (.int (1 : Int32)), .val (.long (1 : Int64)), .second, .val (.long (-4503599627370496 : Int64)), .second, .val (.ref w1), .val (.long fr), .second, .val (.long ((-4503599627370496 : Int64) ||| (fr <<< ((29 : Int32) &&& 0x3f).toInt64))), .second, .val (.long ((4286578688 : Int64) ||| fr)), .second] [(.long ((-4503599627370496 : Int64) ||| (fr <<< ((29 : Int32) &&& 0x3f).toInt64))), (.ref w1)])) rfl (by rw [hml]; rfl) (Steps.refl _) (argsL := [(.long ((-4503599627370496 : Int64) ||| (fr <<< ((29 : Int32) &&& 0x3f).toInt64)))]) (rest := []) (lenOf own_pd0 rfl) rfl (by show 2 * 0 + _ ≤ _; exact Nat.le_of_eq rfl) (hb hby at_150) (fun _ _ => ⟨rfl, e33, (by decide : 0 + 0 ≤ _), (by decide : 0 + 0 ≤ _)⟩)
        dsimp only [Pt.U, Pt.locs, Pt.cells, Pt.slots] at X39 l39 y39 z39 st39 hQ39
        subst l39 y39 z39
        obtain ⟨rfl, N39q, eq39⟩ := hQ39
        have N39 := Fr.app N0 N39q
        obtain ⟨fs, hr, hrun, hended, hW, hsame⟩ := X39.leave (v := some (.int (1 : Int32))) (fun h => by rw [Bd.returns] at h; cases h)
        refine ⟨_, _, pre37 _ ?_, hrun, hended, _, _, rfl, ?_, ⟨_, rfl⟩, hW, hsame.mono (by decide) (by decide)⟩
        ·
          show Steps p.tables e below (T33.setTop (mkF m 141 #[.val (.int p1), .val (.int p2), .val (.long q3), .second, .val (.int (1 : Int32)), .val (.long (1 : Int64)), .second, .val (.long (-4503599627370496 : Int64)), .second, .val (.ref w1), .val (.long fr), .second, .val (.long ((-4503599627370496 : Int64) ||| (fr <<< ((29 : Int32) &&& 0x3f).toInt64))), .second, .val (.long ((4286578688 : Int64) ||| fr)), .second] [(.int (lcmpW fr (0 : Int64)))])) _
          refine XS.ifYes X33.here hx rfl (pc0 := 141) (pc' := 146) rfl (hb hby at_141) rfl ((if0 _ _).trans (feq hc141_38).2) (by decide) (by decide) ?_
          show Steps p.tables e below (T33.setTop (mkF m 146 #[.val (.int p1), .val (.int p2), .val (.long q3), .second, .val (.int (1 : Int32)), .val (.long (1 : Int64)), .second, .val (.long (-4503599627370496 : Int64)), .second, .val (.ref w1), .val (.long fr), .second, .val (.long ((-4503599627370496 : Int64) ||| (fr <<< ((29 : Int32) &&& 0x3f).toInt64))), .second, .val (.long ((4286578688 : Int64) ||| fr)), .second] [])) _
          refine XS.aload X33.here hx rfl (hb hby at_146) rfl rfl ?_
          show Steps p.tables e below (T33.setTop (mkF m 148 #[.val (.int p1), .val (.int p2), .val (.long q3), .second, .val (.int (1 : Int32)), .val (.long (1 : Int64)), .second, .val (.long (-4503599627370496 : Int64)), .second, .val (.ref w1), .val (.long fr), .second, .val (.long ((-4503599627370496 : Int64) ||| (fr <<< ((29 : Int32) &&& 0x3f).toInt64))), .second, .val (.long ((4286578688 : Int64) ||| fr)), .second] [(.ref w1)])) _
          refine XS.lload X33.here hx rfl (hb hby at_148) rfl ?_
          show Steps p.tables e below (T33.setTop (mkF m 150 #[.val (.int p1), .val (.int p2), .val (.long q3), .second, .val (.int (1 : Int32)), .val (.long (1 : Int64)), .second, .val (.long (-4503599627370496 : Int64)), .second, .val (.ref w1), .val (.long fr), .second, .val (.long ((-4503599627370496 : Int64) ||| (fr <<< ((29 : Int32) &&& 0x3f).toInt64))), .second, .val (.long ((4286578688 : Int64) ||| fr)), .second] [(.long ((-4503599627370496 : Int64) ||| (fr <<< ((29 : Int32) &&& 0x3f).toInt64))), (.ref w1)])) _
          refine st39.trans ?_
          show Steps p.tables e below (T39.setTop (mkF m 153 #[.val (.int p1), .val (.int p2), .val (.long q3), .second, .val (.int (1 : Int32)), .val (.long (1 : Int64)), .second, .val (.long (-4503599627370496 : Int64)), .second, .val (.ref w1), .val (.long fr), .second, .val (.long ((-4503599627370496 : Int64) ||| (fr <<< ((29 : Int32) &&& 0x3f).toInt64))), .second, .val (.long ((4286578688 : Int64) ||| fr)), .second] [(.long (((((((-4503599627370496 : Int64) ||| (fr <<< ((29 : Int32) &&& 0x3f).toInt64)).toUInt64 >>> ((63 : Int32) &&& 0x3f).toInt64.toUInt64).toInt64) <<< ((31 : Int32) &&& 0x3f).toInt64) ||| (2139095040 : Int64)) ||| (((((-4503599627370496 : Int64) ||| (fr <<< ((29 : Int32) &&& 0x3f).toInt64)) &&& (4503599627370495 : Int64)).toUInt64 >>> ((29 : Int32) &&& 0x3f).toInt64.toUInt64).toInt64)))])) _
          refine XS.lload X39.here hx rfl (hb hby at_153) rfl ?_
          show Steps p.tables e below (T39.setTop (mkF m 155 #[.val (.int p1), .val (.int p2), .val (.long q3), .second, .val (.int (1 : Int32)), .val (.long (1 : Int64)), .second, .val (.long (-4503599627370496 : Int64)), .second, .val (.ref w1), .val (.long fr), .second, .val (.long ((-4503599627370496 : Int64) ||| (fr <<< ((29 : Int32) &&& 0x3f).toInt64))), .second, .val (.long ((4286578688 : Int64) ||| fr)), .second] [(.long ((4286578688 : Int64) ||| fr)), (.long (((((((-4503599627370496 : Int64) ||| (fr <<< ((29 : Int32) &&& 0x3f).toInt64)).toUInt64 >>> ((63 : Int32) &&& 0x3f).toInt64.toUInt64).toInt64) <<< ((31 : Int32) &&& 0x3f).toInt64) ||| (2139095040 : Int64)) ||| (((((-4503599627370496 : Int64) ||| (fr <<< ((29 : Int32) &&& 0x3f).toInt64)) &&& (4503599627370495 : Int64)).toUInt64 >>> ((29 : Int32) &&& 0x3f).toInt64.toUInt64).toInt64)))])) _
          refine XS.lcmp X39.here hx rfl (hb hby at_155) rfl ?_
          show Steps p.tables e below (T39.setTop (mkF m 156 #[.val (.int p1), .val (.int p2), .val (.long q3), .second, .val (.int (1 : Int32)), .val (.long (1 : Int64)), .second, .val (.long (-4503599627370496 : Int64)), .second, .val (.ref w1), .val (.long fr), .second, .val (.long ((-4503599627370496 : Int64) ||| (fr <<< ((29 : Int32) &&& 0x3f).toInt64))), .second, .val (.long ((4286578688 : Int64) ||| fr)), .second] [(.int (lcmpW (((((((-4503599627370496 : Int64) ||| (fr <<< ((29 : Int32) &&& 0x3f).toInt64)).toUInt64 >>> ((63 : Int32) &&& 0x3f).toInt64.toUInt64).toInt64) <<< ((31 : Int32) &&& 0x3f).toInt64) ||| (2139095040 : Int64)) ||| (((((-4503599627370496 : Int64) ||| (fr <<< ((29 : Int32) &&& 0x3f).toInt64)) &&& (4503599627370495 : Int64)).toUInt64 >>> ((29 : Int32) &&& 0x3f).toInt64.toUInt64).toInt64)) ((4286578688 : Int64) ||| fr)))])) _
          refine XS.ifNo X39.here hx rfl (hb hby at_156) rfl ((if0 _ _).trans (teq ((lw_eq _ _).mpr (own_n_1_1 fr hf0 hf1))).2) ?_
          show Steps p.tables e below (T39.setTop (mkF m 159 #[.val (.int p1), .val (.int p2), .val (.long q3), .second, .val (.int (1 : Int32)), .val (.long (1 : Int64)), .second, .val (.long (-4503599627370496 : Int64)), .second, .val (.ref w1), .val (.long fr), .second, .val (.long ((-4503599627370496 : Int64) ||| (fr <<< ((29 : Int32) &&& 0x3f).toInt64))), .second, .val (.long ((4286578688 : Int64) ||| fr)), .second] [])) _
          refine XS.iconst X39.here hx rfl (hb hby at_159) ?_
          show Steps p.tables e below (T39.setTop (mkF m 160 #[.val (.int p1), .val (.int p2), .val (.long q3), .second, .val (.int (1 : Int32)), .val (.long (1 : Int64)), .second, .val (.long (-4503599627370496 : Int64)), .second, .val (.ref w1), .val (.long fr), .second, .val (.long ((-4503599627370496 : Int64) ||| (fr <<< ((29 : Int32) &&& 0x3f).toInt64))), .second, .val (.long ((4286578688 : Int64) ||| fr)), .second] [(.int (1 : Int32))])) _
          refine XS.goto X39.here hx rfl (pc0 := 160) (pc' := 164) rfl (hb hby at_160) (by decide) (by decide) ?_
          show Steps p.tables e below (T39.setTop (mkF m 164 #[.val (.int p1), .val (.int p2), .val (.long q3), .second, .val (.int (1 : Int32)), .val (.long (1 : Int64)), .second, .val (.long (-4503599627370496 : Int64)), .second, .val (.ref w1), .val (.long fr), .second, .val (.long ((-4503599627370496 : Int64) ||| (fr <<< ((29 : Int32) &&& 0x3f).toInt64))), .second, .val (.long ((4286578688 : Int64) ||| fr)), .second] [(.int (1 : Int32))])) _
          exact retN X39 hx (t := .boolean) Bd.returns (by simp) (hb hby at_164) hr
        ·
          show Q_rm0 Z p1 p2 q3 w0 w1 w2 h0 n0 (_) T39.heap (_)
          rw [eq39]
          exact ⟨rfl, N39⟩
  ·
    rw [hk2] at pre1
    have pre40 : ∀ t, Steps p.tables e below (s₁.setTop (mkF m 14 #[.val (.int p1), .val (.int p2), .val (.long q3), .second, .val (.int (2 : Int32)), .val (.long ((p2 &&& (1 : Int32)).toInt64)), .second, .unset, .unset, .unset, .unset, .unset, .unset, .unset, .unset, .unset] [])) t → Steps p.tables e below (s₁.setTop (entryFrame m #[(.int p1), (.int p2), (.long q3)] maxLocals)) t := fun t kt => by
      refine pre1 _ ?_
      show Steps p.tables e below (s₁.setTop (mkF m 8 #[.val (.int p1), .val (.int p2), .val (.long q3), .second, .val (.int (2 : Int32)), .unset, .unset, .unset, .unset, .unset, .unset, .unset, .unset, .unset, .unset, .unset] [])) _
      refine XS.iloadN X0.here hx rfl (hb hby at_8) rfl ?_
      show Steps p.tables e below (s₁.setTop (mkF m 9 #[.val (.int p1), .val (.int p2), .val (.long q3), .second, .val (.int (2 : Int32)), .unset, .unset, .unset, .unset, .unset, .unset, .unset, .unset, .unset, .unset, .unset] [(.int p2)])) _
      refine XS.iconst X0.here hx rfl (hb hby at_9) ?_
      show Steps p.tables e below (s₁.setTop (mkF m 10 #[.val (.int p1), .val (.int p2), .val (.long q3), .second, .val (.int (2 : Int32)), .unset, .unset, .unset, .unset, .unset, .unset, .unset, .unset, .unset, .unset, .unset] [(.int (1 : Int32)), (.int p2)])) _
      refine XS.iand X0.here hx rfl (hb hby at_10) rfl ?_
      show Steps p.tables e below (s₁.setTop (mkF m 11 #[.val (.int p1), .val (.int p2), .val (.long q3), .second, .val (.int (2 : Int32)), .unset, .unset, .unset, .unset, .unset, .unset, .unset, .unset, .unset, .unset, .unset] [(.int (p2 &&& (1 : Int32)))])) _
      refine XS.i2l X0.here hx rfl (hb hby at_11) rfl ?_
      show Steps p.tables e below (s₁.setTop (mkF m 12 #[.val (.int p1), .val (.int p2), .val (.long q3), .second, .val (.int (2 : Int32)), .unset, .unset, .unset, .unset, .unset, .unset, .unset, .unset, .unset, .unset, .unset] [(.long ((p2 &&& (1 : Int32)).toInt64))])) _
      refine XS.lstore X0.here hx rfl (hb hby at_12) rfl (l' := #[.val (.int p1), .val (.int p2), .val (.long q3), .second, .val (.int (2 : Int32)), .val (.long ((p2 &&& (1 : Int32)).toInt64)), .second, .unset, .unset, .unset, .unset, .unset, .unset, .unset, .unset, .unset]) rfl ?_
      show Steps p.tables e below (s₁.setTop (mkF m 14 #[.val (.int p1), .val (.int p2), .val (.long q3), .second, .val (.int (2 : Int32)), .val (.long ((p2 &&& (1 : Int32)).toInt64)), .second, .unset, .unset, .unset, .unset, .unset, .unset, .unset, .unset, .unset] [])) _
      exact kt
    rcases own_s1 p2 with hs0 | hs1
    ·
      rw [hs0] at pre40
      have pre41 : ∀ t, Steps p.tables e below (s₁.setTop (mkF m 19 #[.val (.int p1), .val (.int p2), .val (.long q3), .second, .val (.int (2 : Int32)), .val (.long (0 : Int64)), .second, .unset, .unset, .unset, .unset, .unset, .unset, .unset, .unset, .unset] [(.long ((0 : Int64) <<< ((63 : Int32) &&& 0x3f).toInt64))])) t → Steps p.tables e below (s₁.setTop (entryFrame m #[(.int p1), (.int p2), (.long q3)] maxLocals)) t := fun t kt => by
        refine pre40 _ ?_
        show Steps p.tables e below (s₁.setTop (mkF m 14 #[.val (.int p1), .val (.int p2), .val (.long q3), .second, .val (.int (2 : Int32)), .val (.long (0 : Int64)), .second, .unset, .unset, .unset, .unset, .unset, .unset, .unset, .unset, .unset] [])) _
        refine XS.lload X0.here hx rfl (hb hby at_14) rfl ?_
        show Steps p.tables e below (s₁.setTop (mkF m 16 #[.val (.int p1), .val (.int p2), .val (.long q3), .second, .val (.int (2 : Int32)), .val (.long (0 : Int64)), .second, .unset, .unset, .unset, .unset, .unset, .unset, .unset, .unset, .unset] [(.long (0 : Int64))])) _
        refine XS.bipush X0.here hx rfl (hb hby at_16) ?_
        show Steps p.tables e below (s₁.setTop (mkF m 18 #[.val (.int p1), .val (.int p2), .val (.long q3), .second, .val (.int (2 : Int32)), .val (.long (0 : Int64)), .second, .unset, .unset, .unset, .unset, .unset, .unset, .unset, .unset, .unset] [(.int (63 : Int32)), (.long (0 : Int64))])) _
        refine XS.lshl X0.here hx rfl (hb hby at_18) rfl ?_
        show Steps p.tables e below (s₁.setTop (mkF m 19 #[.val (.int p1), .val (.int p2), .val (.long q3), .second, .val (.int (2 : Int32)), .val (.long (0 : Int64)), .second, .unset, .unset, .unset, .unset, .unset, .unset, .unset, .unset, .unset] [(.long ((0 : Int64) <<< ((63 : Int32) &&& 0x3f).toInt64))])) _
        exact kt
      rw [show ((0 : Int64) <<< ((63 : Int32) &&& 0x3f).toInt64) = (0 : Int64) from by decide +kernel] at pre41
      have pre42 : ∀ t, Steps p.tables e below (s₁.setTop (mkF m 23 #[.val (.int p1), .val (.int p2), .val (.long q3), .second, .val (.int (2 : Int32)), .val (.long (0 : Int64)), .second, .unset, .unset, .unset, .unset, .unset, .unset, .unset, .unset, .unset] [(.long ((0 : Int64) ||| (9218868437227405312 : Int64)))])) t → Steps p.tables e below (s₁.setTop (entryFrame m #[(.int p1), (.int p2), (.long q3)] maxLocals)) t := fun t kt => by
        refine pre41 _ ?_
        show Steps p.tables e below (s₁.setTop (mkF m 19 #[.val (.int p1), .val (.int p2), .val (.long q3), .second, .val (.int (2 : Int32)), .val (.long (0 : Int64)), .second, .unset, .unset, .unset, .unset, .unset, .unset, .unset, .unset, .unset] [(.long (0 : Int64))])) _
        refine X0.ldc2Long hx hown (mvT hZ (hw _ (List.mem_of_getElem? (i := 1) rfl))) (g := (mkF m 19 #[.val (.int p1), .val (.int p2), .val (.long q3), .second, .val (.int (2 : Int32)), .val (.long (0 : Int64)), .second, .unset, .unset, .unset, .unset, .unset, .unset, .unset, .unset, .unset] [(.long (0 : Int64))])) rfl (hb hby at_19) _ ?_
        show Steps p.tables e below (s₁.setTop (mkF m 22 #[.val (.int p1), .val (.int p2), .val (.long q3), .second, .val (.int (2 : Int32)), .val (.long (0 : Int64)), .second, .unset, .unset, .unset, .unset, .unset, .unset, .unset, .unset, .unset] [(.long (9218868437227405312 : Int64)), (.long (0 : Int64))])) _
        refine XS.lor X0.here hx rfl (hb hby at_22) rfl ?_
        show Steps p.tables e below (s₁.setTop (mkF m 23 #[.val (.int p1), .val (.int p2), .val (.long q3), .second, .val (.int (2 : Int32)), .val (.long (0 : Int64)), .second, .unset, .unset, .unset, .unset, .unset, .unset, .unset, .unset, .unset] [(.long ((0 : Int64) ||| (9218868437227405312 : Int64)))])) _
        exact kt
      rw [show ((0 : Int64) ||| (9218868437227405312 : Int64)) = (9218868437227405312 : Int64) from by decide +kernel] at pre42
      obtain ⟨T43, X43, e43, st43⟩ := getS2 X0 hx hZ hown (host := "") (Or.inl (hw _ (List.mem_of_getElem? (i := 21) rfl))) Via.refl e0 S2 (g := (mkF m 114 #[.val (.int p1), .val (.int p2), .val (.long q3), .second, .val (.int (2 : Int32)), .val (.long (0 : Int64)), .second, .val (.long (9218868437227405312 : Int64)), .second, .unset, .unset, .unset, .unset, .unset, .unset, .unset] [])) rfl (hb hby at_114)
      have pre44 : ∀ t, Steps p.tables e below (T43.setTop (mkF m 126 #[.val (.int p1), .val (.int p2), .val (.long q3), .second, .val (.int (2 : Int32)), .val (.long (0 : Int64)), .second, .val (.long (9218868437227405312 : Int64)), .second, .val (.ref w2), .val (.long (q3 &&& (4503599627370495 : Int64))), .second, .unset, .unset, .unset, .unset] [])) t → Steps p.tables e below (s₁.setTop (entryFrame m #[(.int p1), (.int p2), (.long q3)] maxLocals)) t := fun t kt => by
        refine pre42 _ ?_
        show Steps p.tables e below (s₁.setTop (mkF m 23 #[.val (.int p1), .val (.int p2), .val (.long q3), .second, .val (.int (2 : Int32)), .val (.long (0 : Int64)), .second, .unset, .unset, .unset, .unset, .unset, .unset, .unset, .unset, .unset] [(.long (9218868437227405312 : Int64))])) _
        refine XS.lstore X0.here hx rfl (hb hby at_23) rfl (l' := #[.val (.int p1), .val (.int p2), .val (.long q3), .second, .val (.int (2 : Int32)), .val (.long (0 : Int64)), .second, .val (.long (9218868437227405312 : Int64)), .second, .unset, .unset, .unset, .unset, .unset, .unset, .unset]) rfl ?_
        show Steps p.tables e below (s₁.setTop (mkF m 25 #[.val (.int p1), .val (.int p2), .val (.long q3), .second, .val (.int (2 : Int32)), .val (.long (0 : Int64)), .second, .val (.long (9218868437227405312 : Int64)), .second, .unset, .unset, .unset, .unset, .unset, .unset, .unset] [])) _
        refine XS.iload X0.here hx rfl (hb hby at_25) rfl ?_
        show Steps p.tables e below (s₁.setTop (mkF m 27 #[.val (.int p1), .val (.int p2), .val (.long q3), .second, .val (.int (2 : Int32)), .val (.long (0 : Int64)), .second, .val (.long (9218868437227405312 : Int64)), .second, .unset, .unset, .unset, .unset, .unset, .unset, .unset] [(.int (2 : Int32))])) _
        refine XS.ifYes X0.here hx rfl (pc0 := 27) (pc' := 69) rfl (hb hby at_27) rfl ((if0 _ _).trans (feq (by decide : ¬ ((2 : Int32) = (0 : Int32)))).2) (by decide) (by decide) ?_
        show Steps p.tables e below (s₁.setTop (mkF m 69 #[.val (.int p1), .val (.int p2), .val (.long q3), .second, .val (.int (2 : Int32)), .val (.long (0 : Int64)), .second, .val (.long (9218868437227405312 : Int64)), .second, .unset, .unset, .unset, .unset, .unset, .unset, .unset] [])) _
        refine XS.iload X0.here hx rfl (hb hby at_69) rfl ?_
        show Steps p.tables e below (s₁.setTop (mkF m 71 #[.val (.int p1), .val (.int p2), .val (.long q3), .second, .val (.int (2 : Int32)), .val (.long (0 : Int64)), .second, .val (.long (9218868437227405312 : Int64)), .second, .unset, .unset, .unset, .unset, .unset, .unset, .unset] [(.int (2 : Int32))])) _
        refine XS.iconst X0.here hx rfl (hb hby at_71) ?_
        show Steps p.tables e below (s₁.setTop (mkF m 72 #[.val (.int p1), .val (.int p2), .val (.long q3), .second, .val (.int (2 : Int32)), .val (.long (0 : Int64)), .second, .val (.long (9218868437227405312 : Int64)), .second, .unset, .unset, .unset, .unset, .unset, .unset, .unset] [(.int (1 : Int32)), (.int (2 : Int32))])) _
        refine XS.icmpYes X0.here hx rfl (pc0 := 72) (pc' := 114) rfl (hb hby at_72) rfl (feq (by decide : ¬ ((2 : Int32) = (1 : Int32)))).2 (by decide) (by decide) ?_
        show Steps p.tables e below (s₁.setTop (mkF m 114 #[.val (.int p1), .val (.int p2), .val (.long q3), .second, .val (.int (2 : Int32)), .val (.long (0 : Int64)), .second, .val (.long (9218868437227405312 : Int64)), .second, .unset, .unset, .unset, .unset, .unset, .unset, .unset] [])) _
        refine st43 _ ?_
        show Steps p.tables e below (T43.setTop (mkF m 117 #[.val (.int p1), .val (.int p2), .val (.long q3), .second, .val (.int (2 : Int32)), .val (.long (0 : Int64)), .second, .val (.long (9218868437227405312 : Int64)), .second, .unset, .unset, .unset, .unset, .unset, .unset, .unset] [(.ref w2)])) _
        refine XS.astore X43.here hx rfl (hb hby at_117) rfl rfl (l' := #[.val (.int p1), .val (.int p2), .val (.long q3), .second, .val (.int (2 : Int32)), .val (.long (0 : Int64)), .second, .val (.long (9218868437227405312 : Int64)), .second, .val (.ref w2), .unset, .unset, .unset, .unset, .unset, .unset]) rfl ?_
        show Steps p.tables e below (T43.setTop (mkF m 119 #[.val (.int p1), .val (.int p2), .val (.long q3), .second, .val (.int (2 : Int32)), .val (.long (0 : Int64)), .second, .val (.long (9218868437227405312 : Int64)), .second, .val (.ref w2), .unset, .unset, .unset, .unset, .unset, .unset] [])) _
        refine XS.lloadN X43.here hx rfl (hb hby at_119) rfl ?_
        show Steps p.tables e below (T43.setTop (mkF m 120 #[.val (.int p1), .val (.int p2), .val (.long q3), .second, .val (.int (2 : Int32)), .val (.long (0 : Int64)), .second, .val (.long (9218868437227405312 : Int64)), .second, .val (.ref w2), .unset, .unset, .unset, .unset, .unset, .unset] [(.long q3)])) _
        refine X43.ldc2Long hx hown (mvT hZ (hw _ (List.mem_of_getElem? (i := 23) rfl))) (g := (mkF m 120 #[.val (.int p1), .val (.int p2), .val (.long q3), .second, .val (.int (2 : Int32)), .val (.long (0 : Int64)), .second, .val (.long (9218868437227405312 : Int64)), .second, .val (.ref w2), .unset, .unset, .unset, .unset, .unset, .unset] [(.long q3)])) rfl (hb hby at_120) _ ?_
        show Steps p.tables e below (T43.setTop (mkF m 123 #[.val (.int p1), .val (.int p2), .val (.long q3), .second, .val (.int (2 : Int32)), .val (.long (0 : Int64)), .second, .val (.long (9218868437227405312 : Int64)), .second, .val (.ref w2), .unset, .unset, .unset, .unset, .unset, .unset] [(.long (4503599627370495 : Int64)), (.long q3)])) _
        refine XS.land X43.here hx rfl (hb hby at_123) rfl ?_
        show Steps p.tables e below (T43.setTop (mkF m 124 #[.val (.int p1), .val (.int p2), .val (.long q3), .second, .val (.int (2 : Int32)), .val (.long (0 : Int64)), .second, .val (.long (9218868437227405312 : Int64)), .second, .val (.ref w2), .unset, .unset, .unset, .unset, .unset, .unset] [(.long (q3 &&& (4503599627370495 : Int64)))])) _
        refine XS.lstore X43.here hx rfl (hb hby at_124) rfl (l' := #[.val (.int p1), .val (.int p2), .val (.long q3), .second, .val (.int (2 : Int32)), .val (.long (0 : Int64)), .second, .val (.long (9218868437227405312 : Int64)), .second, .val (.ref w2), .val (.long (q3 &&& (4503599627370495 : Int64))), .second, .unset, .unset, .unset, .unset]) rfl ?_
        show Steps p.tables e below (T43.setTop (mkF m 126 #[.val (.int p1), .val (.int p2), .val (.long q3), .second, .val (.int (2 : Int32)), .val (.long (0 : Int64)), .second, .val (.long (9218868437227405312 : Int64)), .second, .val (.ref w2), .val (.long (q3 &&& (4503599627370495 : Int64))), .second, .unset, .unset, .unset, .unset] [])) _
        exact kt
      obtain ⟨fr, hfr⟩ : ∃ z, z = (q3 &&& (4503599627370495 : Int64)) := ⟨_, rfl⟩
      rw [← hfr] at pre44
      have hm := c_maskL q3 (4503599627370495 : Int64) 52 (by decide) (by decide)
      rw [← hfr] at hm
      have hf0 : 0 ≤ fr.toInt := by omega
      have hf1 : fr.toInt < 4503599627370496 := by omega
      have pre45 : ∀ t, Steps p.tables e below (T43.setTop (mkF m 141 #[.val (.int p1), .val (.int p2), .val (.long q3), .second, .val (.int (2 : Int32)), .val (.long (0 : Int64)), .second, .val (.long (9218868437227405312 : Int64)), .second, .val (.ref w2), .val (.long fr), .second, .val (.long ((9218868437227405312 : Int64) ||| fr)), .second, .val (.long ((9218868437227405312 : Int64) ||| fr)), .second] [(.int (lcmpW fr (0 : Int64)))])) t → Steps p.tables e below (s₁.setTop (entryFrame m #[(.int p1), (.int p2), (.long q3)] maxLocals)) t := fun t kt => by
        refine pre44 _ ?_
        show Steps p.tables e below (T43.setTop (mkF m 126 #[.val (.int p1), .val (.int p2), .val (.long q3), .second, .val (.int (2 : Int32)), .val (.long (0 : Int64)), .second, .val (.long (9218868437227405312 : Int64)), .second, .val (.ref w2), .val (.long fr), .second, .unset, .unset, .unset, .unset] [])) _
        refine XS.lload X43.here hx rfl (hb hby at_126) rfl ?_
        show Steps p.tables e below (T43.setTop (mkF m 128 #[.val (.int p1), .val (.int p2), .val (.long q3), .second, .val (.int (2 : Int32)), .val (.long (0 : Int64)), .second, .val (.long (9218868437227405312 : Int64)), .second, .val (.ref w2), .val (.long fr), .second, .unset, .unset, .unset, .unset] [(.long (9218868437227405312 : Int64))])) _
        refine XS.lload X43.here hx rfl (hb hby at_128) rfl ?_
        show Steps p.tables e below (T43.setTop (mkF m 130 #[.val (.int p1), .val (.int p2), .val (.long q3), .second, .val (.int (2 : Int32)), .val (.long (0 : Int64)), .second, .val (.long (9218868437227405312 : Int64)), .second, .val (.ref w2), .val (.long fr), .second, .unset, .unset, .unset, .unset] [(.long fr), (.long (9218868437227405312 : Int64))])) _
        refine XS.lor X43.here hx rfl (hb hby at_130) rfl ?_
        show Steps p.tables e below (T43.setTop (mkF m 131 #[.val (.int p1), .val (.int p2), .val (.long q3), .second, .val (.int (2 : Int32)), .val (.long (0 : Int64)), .second, .val (.long (9218868437227405312 : Int64)), .second, .val (.ref w2), .val (.long fr), .second, .unset, .unset, .unset, .unset] [(.long ((9218868437227405312 : Int64) ||| fr))])) _
        refine XS.lstore X43.here hx rfl (hb hby at_131) rfl (l' := #[.val (.int p1), .val (.int p2), .val (.long q3), .second, .val (.int (2 : Int32)), .val (.long (0 : Int64)), .second, .val (.long (9218868437227405312 : Int64)), .second, .val (.ref w2), .val (.long fr), .second, .val (.long ((9218868437227405312 : Int64) ||| fr)), .second, .unset, .unset]) rfl ?_
        show Steps p.tables e below (T43.setTop (mkF m 133 #[.val (.int p1), .val (.int p2), .val (.long q3), .second, .val (.int (2 : Int32)), .val (.long (0 : Int64)), .second, .val (.long (9218868437227405312 : Int64)), .second, .val (.ref w2), .val (.long fr), .second, .val (.long ((9218868437227405312 : Int64) ||| fr)), .second, .unset, .unset] [])) _
        refine XS.lload X43.here hx rfl (hb hby at_133) rfl ?_
        show Steps p.tables e below (T43.setTop (mkF m 135 #[.val (.int p1), .val (.int p2), .val (.long q3), .second, .val (.int (2 : Int32)), .val (.long (0 : Int64)), .second, .val (.long (9218868437227405312 : Int64)), .second, .val (.ref w2), .val (.long fr), .second, .val (.long ((9218868437227405312 : Int64) ||| fr)), .second, .unset, .unset] [(.long ((9218868437227405312 : Int64) ||| fr))])) _
        refine XS.lstore X43.here hx rfl (hb hby at_135) rfl (l' := #[.val (.int p1), .val (.int p2), .val (.long q3), .second, .val (.int (2 : Int32)), .val (.long (0 : Int64)), .second, .val (.long (9218868437227405312 : Int64)), .second, .val (.ref w2), .val (.long fr), .second, .val (.long ((9218868437227405312 : Int64) ||| fr)), .second, .val (.long ((9218868437227405312 : Int64) ||| fr)), .second]) rfl ?_
        show Steps p.tables e below (T43.setTop (mkF m 137 #[.val (.int p1), .val (.int p2), .val (.long q3), .second, .val (.int (2 : Int32)), .val (.long (0 : Int64)), .second, .val (.long (9218868437227405312 : Int64)), .second, .val (.ref w2), .val (.long fr), .second, .val (.long ((9218868437227405312 : Int64) ||| fr)), .second, .val (.long ((9218868437227405312 : Int64) ||| fr)), .second] [])) _
        refine XS.lload X43.here hx rfl (hb hby at_137) rfl ?_
        show Steps p.tables e below (T43.setTop (mkF m 139 #[.val (.int p1), .val (.int p2), .val (.long q3), .second, .val (.int (2 : Int32)), .val (.long (0 : Int64)), .second, .val (.long (9218868437227405312 : Int64)), .second, .val (.ref w2), .val (.long fr), .second, .val (.long ((9218868437227405312 : Int64) ||| fr)), .second, .val (.long ((9218868437227405312 : Int64) ||| fr)), .second] [(.long fr)])) _
        refine XS.lconst X43.here hx rfl (hb hby at_139) ?_
        show Steps p.tables e below (T43.setTop (mkF m 140 #[.val (.int p1), .val (.int p2), .val (.long q3), .second, .val (.int (2 : Int32)), .val (.long (0 : Int64)), .second, .val (.long (9218868437227405312 : Int64)), .second, .val (.ref w2), .val (.long fr), .second, .val (.long ((9218868437227405312 : Int64) ||| fr)), .second, .val (.long ((9218868437227405312 : Int64) ||| fr)), .second] [(.long (0 : Int64)), (.long fr)])) _
        refine XS.lcmp X43.here hx rfl (hb hby at_140) rfl ?_
        show Steps p.tables e below (T43.setTop (mkF m 141 #[.val (.int p1), .val (.int p2), .val (.long q3), .second, .val (.int (2 : Int32)), .val (.long (0 : Int64)), .second, .val (.long (9218868437227405312 : Int64)), .second, .val (.ref w2), .val (.long fr), .second, .val (.long ((9218868437227405312 : Int64) ||| fr)), .second, .val (.long ((9218868437227405312 : Int64) ||| fr)), .second] [(.int (lcmpW fr (0 : Int64)))])) _
        exact kt
      rcases Decidable.em ((lcmpW fr (0 : Int64)) = (0 : Int32)) with hc141_46 | hc141_46
      ·
        obtain ⟨fs, hr, hrun, hended, hW, hsame⟩ := X43.leave (v := some (.int (1 : Int32))) (fun h => by rw [Bd.returns] at h; cases h)
        refine ⟨_, _, pre45 _ ?_, hrun, hended, _, _, rfl, ?_, ⟨_, rfl⟩, hW, hsame.mono (by decide) (by decide)⟩
        ·
          show Steps p.tables e below (T43.setTop (mkF m 141 #[.val (.int p1), .val (.int p2), .val (.long q3), .second, .val (.int (2 : Int32)), .val (.long (0 : Int64)), .second, .val (.long (9218868437227405312 : Int64)), .second, .val (.ref w2), .val (.long fr), .second, .val (.long ((9218868437227405312 : Int64) ||| fr)), .second, .val (.long ((9218868437227405312 : Int64) ||| fr)), .second] [(.int (lcmpW fr (0 : Int64)))])) _
          refine XS.ifNo X43.here hx rfl (hb hby at_141) rfl ((if0 _ _).trans (teq hc141_46).2) ?_
          show Steps p.tables e below (T43.setTop (mkF m 144 #[.val (.int p1), .val (.int p2), .val (.long q3), .second, .val (.int (2 : Int32)), .val (.long (0 : Int64)), .second, .val (.long (9218868437227405312 : Int64)), .second, .val (.ref w2), .val (.long fr), .second, .val (.long ((9218868437227405312 : Int64) ||| fr)), .second, .val (.long ((9218868437227405312 : Int64) ||| fr)), .second] [])) _
          refine XS.iconst X43.here hx rfl (hb hby at_144) ?_
          show Steps p.tables e below (T43.setTop (mkF m 145 #[.val (.int p1), .val (.int p2), .val (.long q3), .second, .val (.int (2 : Int32)), .val (.long (0 : Int64)), .second, .val (.long (9218868437227405312 : Int64)), .second, .val (.ref w2), .val (.long fr), .second, .val (.long ((9218868437227405312 : Int64) ||| fr)), .second, .val (.long ((9218868437227405312 : Int64) ||| fr)), .second] [(.int (1 : Int32))])) _
          exact retN X43 hx (t := .boolean) Bd.returns (by simp) (hb hby at_145) hr
        ·
          show Q_rm0 Z p1 p2 q3 w0 w1 w2 h0 n0 (_) T43.heap (_)
          rw [e43]
          exact ⟨rfl, N0⟩
      ·
        obtain ⟨cq47, kq47, q47a, q47b, q47c⟩ := isOf hZ e43 E2
        obtain ⟨_, _, ⟨T47, L47, k47, n47⟩, -, X47, ⟨Lc47, hQ47, l47, y47, z47⟩, st47⟩ := X43.virtualBack hx (y := (⟨"com/example/chronotag/chronotag/codec/FloatFormat", "narrowNaN", "(J)J"⟩ : MethodName)) (z := (⟨"com/example/chronotag/chronotag/codec/FloatFormat", "narrowNaN", "(J)J"⟩ : MethodName)) hown (mvT hZ (hw _ (List.mem_of_getElem? (i := 7) rfl))) (mvT hZ (hw _ (List.mem_of_getElem? (i := 8) rfl))) (notFace_of_selects (args := #[]) (mvT hZ (hw _ (List.mem_of_getElem? (i := 10) rfl)))) (mvT hZ (hw _ (List.mem_of_getElem? (i := 10) rfl))) (mvT hZ (hw _ (List.mem_of_getElem? (i := 9) rfl))) (by decide) (backOf (W := 0) (rmF2 l Z a0 hw [] w2 ((9218868437227405312 : Int64) ||| fr) h0 n0 Z0 F2w F2f) hZ (hw _ (List.mem_of_getElem? (i := 11) rfl)) (hw _ (List.mem_of_getElem? (i := 3) rfl)) (by decide) (by decide)) q47a q47c (g := (mkF m 150 #[.val (.int p1), .val (.int p2), .val (.long q3), .second, .val (.int (2 : Int32)), .val (.long (0 : Int64)), .second, .val (.long (9218868437227405312 : Int64)), .second, .val (.ref w2), .val (.long fr), .second, .val (.long ((9218868437227405312 : Int64) ||| fr)), .second, .val (.long ((9218868437227405312 : Int64) ||| fr)), .second] [(.long ((9218868437227405312 : Int64) ||| fr)), (.ref w2)])) rfl (by rw [hml]; rfl) (Steps.refl _) (argsL := [(.long ((9218868437227405312 : Int64) ||| fr))]) (rest := []) (lenOf own_pd0 rfl) rfl (by show 2 * 0 + _ ≤ _; exact Nat.le_of_eq rfl) (hb hby at_150) (fun _ _ => ⟨rfl, e43, (by decide : 0 + 0 ≤ _), (by decide : 0 + 0 ≤ _)⟩)
        dsimp only [Pt.U, Pt.locs, Pt.cells, Pt.slots] at X47 l47 y47 z47 st47 hQ47
        subst l47 y47 z47
        obtain ⟨rfl, N47q, eq47⟩ := hQ47
        have N47 := Fr.app N0 N47q
        obtain ⟨fs, hr, hrun, hended, hW, hsame⟩ := X47.leave (v := some (.int (1 : Int32))) (fun h => by rw [Bd.returns] at h; cases h)
        refine ⟨_, _, pre45 _ ?_, hrun, hended, _, _, rfl, ?_, ⟨_, rfl⟩, hW, hsame.mono (by decide) (by decide)⟩
        ·
          show Steps p.tables e below (T43.setTop (mkF m 141 #[.val (.int p1), .val (.int p2), .val (.long q3), .second, .val (.int (2 : Int32)), .val (.long (0 : Int64)), .second, .val (.long (9218868437227405312 : Int64)), .second, .val (.ref w2), .val (.long fr), .second, .val (.long ((9218868437227405312 : Int64) ||| fr)), .second, .val (.long ((9218868437227405312 : Int64) ||| fr)), .second] [(.int (lcmpW fr (0 : Int64)))])) _
          refine XS.ifYes X43.here hx rfl (pc0 := 141) (pc' := 146) rfl (hb hby at_141) rfl ((if0 _ _).trans (feq hc141_46).2) (by decide) (by decide) ?_
          show Steps p.tables e below (T43.setTop (mkF m 146 #[.val (.int p1), .val (.int p2), .val (.long q3), .second, .val (.int (2 : Int32)), .val (.long (0 : Int64)), .second, .val (.long (9218868437227405312 : Int64)), .second, .val (.ref w2), .val (.long fr), .second, .val (.long ((9218868437227405312 : Int64) ||| fr)), .second, .val (.long ((9218868437227405312 : Int64) ||| fr)), .second] [])) _
          refine XS.aload X43.here hx rfl (hb hby at_146) rfl rfl ?_
          show Steps p.tables e below (T43.setTop (mkF m 148 #[.val (.int p1), .val (.int p2), .val (.long q3), .second, .val (.int (2 : Int32)), .val (.long (0 : Int64)), .second, .val (.long (9218868437227405312 : Int64)), .second, .val (.ref w2), .val (.long fr), .second, .val (.long ((9218868437227405312 : Int64) ||| fr)), .second, .val (.long ((9218868437227405312 : Int64) ||| fr)), .second] [(.ref w2)])) _
          refine XS.lload X43.here hx rfl (hb hby at_148) rfl ?_
          show Steps p.tables e below (T43.setTop (mkF m 150 #[.val (.int p1), .val (.int p2), .val (.long q3), .second, .val (.int (2 : Int32)), .val (.long (0 : Int64)), .second, .val (.long (9218868437227405312 : Int64)), .second, .val (.ref w2), .val (.long fr), .second, .val (.long ((9218868437227405312 : Int64) ||| fr)), .second, .val (.long ((9218868437227405312 : Int64) ||| fr)), .second] [(.long ((9218868437227405312 : Int64) ||| fr)), (.ref w2)])) _
          refine st47.trans ?_
          show Steps p.tables e below (T47.setTop (mkF m 153 #[.val (.int p1), .val (.int p2), .val (.long q3), .second, .val (.int (2 : Int32)), .val (.long (0 : Int64)), .second, .val (.long (9218868437227405312 : Int64)), .second, .val (.ref w2), .val (.long fr), .second, .val (.long ((9218868437227405312 : Int64) ||| fr)), .second, .val (.long ((9218868437227405312 : Int64) ||| fr)), .second] [(.long (((((((9218868437227405312 : Int64) ||| fr).toUInt64 >>> ((63 : Int32) &&& 0x3f).toInt64.toUInt64).toInt64) <<< ((63 : Int32) &&& 0x3f).toInt64) ||| (9218868437227405312 : Int64)) ||| (((((9218868437227405312 : Int64) ||| fr) &&& (4503599627370495 : Int64)).toUInt64 >>> ((0 : Int32) &&& 0x3f).toInt64.toUInt64).toInt64)))])) _
          refine XS.lload X47.here hx rfl (hb hby at_153) rfl ?_
          show Steps p.tables e below (T47.setTop (mkF m 155 #[.val (.int p1), .val (.int p2), .val (.long q3), .second, .val (.int (2 : Int32)), .val (.long (0 : Int64)), .second, .val (.long (9218868437227405312 : Int64)), .second, .val (.ref w2), .val (.long fr), .second, .val (.long ((9218868437227405312 : Int64) ||| fr)), .second, .val (.long ((9218868437227405312 : Int64) ||| fr)), .second] [(.long ((9218868437227405312 : Int64) ||| fr)), (.long (((((((9218868437227405312 : Int64) ||| fr).toUInt64 >>> ((63 : Int32) &&& 0x3f).toInt64.toUInt64).toInt64) <<< ((63 : Int32) &&& 0x3f).toInt64) ||| (9218868437227405312 : Int64)) ||| (((((9218868437227405312 : Int64) ||| fr) &&& (4503599627370495 : Int64)).toUInt64 >>> ((0 : Int32) &&& 0x3f).toInt64.toUInt64).toInt64)))])) _
          refine XS.lcmp X47.here hx rfl (hb hby at_155) rfl ?_
          show Steps p.tables e below (T47.setTop (mkF m 156 #[.val (.int p1), .val (.int p2), .val (.long q3), .second, .val (.int (2 : Int32)), .val (.long (0 : Int64)), .second, .val (.long (9218868437227405312 : Int64)), .second, .val (.ref w2), .val (.long fr), .second, .val (.long ((9218868437227405312 : Int64) ||| fr)), .second, .val (.long ((9218868437227405312 : Int64) ||| fr)), .second] [(.int (lcmpW (((((((9218868437227405312 : Int64) ||| fr).toUInt64 >>> ((63 : Int32) &&& 0x3f).toInt64.toUInt64).toInt64) <<< ((63 : Int32) &&& 0x3f).toInt64) ||| (9218868437227405312 : Int64)) ||| (((((9218868437227405312 : Int64) ||| fr) &&& (4503599627370495 : Int64)).toUInt64 >>> ((0 : Int32) &&& 0x3f).toInt64.toUInt64).toInt64)) ((9218868437227405312 : Int64) ||| fr)))])) _
          refine XS.ifNo X47.here hx rfl (hb hby at_156) rfl ((if0 _ _).trans (teq ((lw_eq _ _).mpr (own_n_2_0 fr hf0 hf1))).2) ?_
          show Steps p.tables e below (T47.setTop (mkF m 159 #[.val (.int p1), .val (.int p2), .val (.long q3), .second, .val (.int (2 : Int32)), .val (.long (0 : Int64)), .second, .val (.long (9218868437227405312 : Int64)), .second, .val (.ref w2), .val (.long fr), .second, .val (.long ((9218868437227405312 : Int64) ||| fr)), .second, .val (.long ((9218868437227405312 : Int64) ||| fr)), .second] [])) _
          refine XS.iconst X47.here hx rfl (hb hby at_159) ?_
          show Steps p.tables e below (T47.setTop (mkF m 160 #[.val (.int p1), .val (.int p2), .val (.long q3), .second, .val (.int (2 : Int32)), .val (.long (0 : Int64)), .second, .val (.long (9218868437227405312 : Int64)), .second, .val (.ref w2), .val (.long fr), .second, .val (.long ((9218868437227405312 : Int64) ||| fr)), .second, .val (.long ((9218868437227405312 : Int64) ||| fr)), .second] [(.int (1 : Int32))])) _
          refine XS.goto X47.here hx rfl (pc0 := 160) (pc' := 164) rfl (hb hby at_160) (by decide) (by decide) ?_
          show Steps p.tables e below (T47.setTop (mkF m 164 #[.val (.int p1), .val (.int p2), .val (.long q3), .second, .val (.int (2 : Int32)), .val (.long (0 : Int64)), .second, .val (.long (9218868437227405312 : Int64)), .second, .val (.ref w2), .val (.long fr), .second, .val (.long ((9218868437227405312 : Int64) ||| fr)), .second, .val (.long ((9218868437227405312 : Int64) ||| fr)), .second] [(.int (1 : Int32))])) _
          exact retN X47 hx (t := .boolean) Bd.returns (by simp) (hb hby at_164) hr
        ·
          show Q_rm0 Z p1 p2 q3 w0 w1 w2 h0 n0 (_) T47.heap (_)
          rw [eq47]
          exact ⟨rfl, N47⟩
    ·
      rw [hs1] at pre40
      have pre48 : ∀ t, Steps p.tables e below (s₁.setTop (mkF m 19 #[.val (.int p1), .val (.int p2), .val (.long q3), .second, .val (.int (2 : Int32)), .val (.long (1 : Int64)), .second, .unset, .unset, .unset, .unset, .unset, .unset, .unset, .unset, .unset] [(.long ((1 : Int64) <<< ((63 : Int32) &&& 0x3f).toInt64))])) t → Steps p.tables e below (s₁.setTop (entryFrame m #[(.int p1), (.int p2), (.long q3)] maxLocals)) t := fun t kt => by
        refine pre40 _ ?_
        show Steps p.tables e below (s₁.setTop (mkF m 14 #[.val (.int p1), .val (.int p2), .val (.long q3), .second, .val (.int (2 : Int32)), .val (.long (1 : Int64)), .second, .unset, .unset, .unset, .unset, .unset, .unset, .unset, .unset, .unset] [])) _
        refine XS.lload X0.here hx rfl (hb hby at_14) rfl ?_
        show Steps p.tables e below (s₁.setTop (mkF m 16 #[.val (.int p1), .val (.int p2), .val (.long q3), .second, .val (.int (2 : Int32)), .val (.long (1 : Int64)), .second, .unset, .unset, .unset, .unset, .unset, .unset, .unset, .unset, .unset] [(.long (1 : Int64))])) _
        refine XS.bipush X0.here hx rfl (hb hby at_16) ?_
        show Steps p.tables e below (s₁.setTop (mkF m 18 #[.val (.int p1), .val (.int p2), .val (.long q3), .second, .val (.int (2 : Int32)), .val (.long (1 : Int64)), .second, .unset, .unset, .unset, .unset, .unset, .unset, .unset, .unset, .unset] [(.int (63 : Int32)), (.long (1 : Int64))])) _
        refine XS.lshl X0.here hx rfl (hb hby at_18) rfl ?_
        show Steps p.tables e below (s₁.setTop (mkF m 19 #[.val (.int p1), .val (.int p2), .val (.long q3), .second, .val (.int (2 : Int32)), .val (.long (1 : Int64)), .second, .unset, .unset, .unset, .unset, .unset, .unset, .unset, .unset, .unset] [(.long ((1 : Int64) <<< ((63 : Int32) &&& 0x3f).toInt64))])) _
        exact kt
      rw [show ((1 : Int64) <<< ((63 : Int32) &&& 0x3f).toInt64) = (-9223372036854775808 : Int64) from by decide +kernel] at pre48
      have pre49 : ∀ t, Steps p.tables e below (s₁.setTop (mkF m 23 #[.val (.int p1), .val (.int p2), .val (.long q3), .second, .val (.int (2 : Int32)), .val (.long (1 : Int64)), .second, .unset, .unset, .unset, .unset, .unset, .unset, .unset, .unset, .unset] [(.long ((-9223372036854775808 : Int64) ||| (9218868437227405312 : Int64)))])) t → Steps p.tables e below (s₁.setTop (entryFrame m #[(.int p1), (.int p2), (.long q3)] maxLocals)) t := fun t kt => by
        refine pre48 _ ?_
        show Steps p.tables e below (s₁.setTop (mkF m 19 #[.val (.int p1), .val (.int p2), .val (.long q3), .second, .val (.int (2 : Int32)), .val (.long (1 : Int64)), .second, .unset, .unset, .unset, .unset, .unset, .unset, .unset, .unset, .unset] [(.long (-9223372036854775808 : Int64))])) _
        refine X0.ldc2Long hx hown (mvT hZ (hw _ (List.mem_of_getElem? (i := 1) rfl))) (g := (mkF m 19 #[.val (.int p1), .val (.int p2), .val (.long q3), .second, .val (.int (2 : Int32)), .val (.long (1 : Int64)), .second, .unset, .unset, .unset, .unset, .unset, .unset, .unset, .unset, .unset] [(.long (-9223372036854775808 : Int64))])) rfl (hb hby at_19) _ ?_
        show Steps p.tables e below (s₁.setTop (mkF m 22 #[.val (.int p1), .val (.int p2), .val (.long q3), .second, .val (.int (2 : Int32)), .val (.long (1 : Int64)), .second, .unset, .unset, .unset, .unset, .unset, .unset, .unset, .unset, .unset] [(.long (9218868437227405312 : Int64)), (.long (-9223372036854775808 : Int64))])) _
        refine XS.lor X0.here hx rfl (hb hby at_22) rfl ?_
        show Steps p.tables e below (s₁.setTop (mkF m 23 #[.val (.int p1), .val (.int p2), .val (.long q3), .second, .val (.int (2 : Int32)), .val (.long (1 : Int64)), .second, .unset, .unset, .unset, .unset, .unset, .unset, .unset, .unset, .unset] [(.long ((-9223372036854775808 : Int64) ||| (9218868437227405312 : Int64)))])) _
        exact kt
      rw [show ((-9223372036854775808 : Int64) ||| (9218868437227405312 : Int64)) = (-4503599627370496 : Int64) from by decide +kernel] at pre49
      obtain ⟨T50, X50, e50, st50⟩ := getS2 X0 hx hZ hown (host := "") (Or.inl (hw _ (List.mem_of_getElem? (i := 21) rfl))) Via.refl e0 S2 (g := (mkF m 114 #[.val (.int p1), .val (.int p2), .val (.long q3), .second, .val (.int (2 : Int32)), .val (.long (1 : Int64)), .second, .val (.long (-4503599627370496 : Int64)), .second, .unset, .unset, .unset, .unset, .unset, .unset, .unset] [])) rfl (hb hby at_114)
      have pre51 : ∀ t, Steps p.tables e below (T50.setTop (mkF m 126 #[.val (.int p1), .val (.int p2), .val (.long q3), .second, .val (.int (2 : Int32)), .val (.long (1 : Int64)), .second, .val (.long (-4503599627370496 : Int64)), .second, .val (.ref w2), .val (.long (q3 &&& (4503599627370495 : Int64))), .second, .unset, .unset, .unset, .unset] [])) t → Steps p.tables e below (s₁.setTop (entryFrame m #[(.int p1), (.int p2), (.long q3)] maxLocals)) t := fun t kt => by
        refine pre49 _ ?_
        show Steps p.tables e below (s₁.setTop (mkF m 23 #[.val (.int p1), .val (.int p2), .val (.long q3), .second, .val (.int (2 : Int32)), .val (.long (1 : Int64)), .second, .unset, .unset, .unset, .unset, .unset, .unset, .unset, .unset, .unset] [(.long (-4503599627370496 : Int64))])) _
        refine XS.lstore X0.here hx rfl (hb hby at_23) rfl (l' := #[.val (.int p1), .val (.int p2), .val (.long q3), .second, .val (.int (2 : Int32)), .val (.long (1 : Int64)), .second, .val (.long (-4503599627370496 : Int64)), .second, .unset, .unset, .unset, .unset, .unset, .unset, .unset]) rfl ?_
        show Steps p.tables e below (s₁.setTop (mkF m 25 #[.val (.int p1), .val (.int p2), .val (.long q3), .second, .val (.int (2 : Int32)), .val (.long (1 : Int64)), .second, .val (.long (-4503599627370496 : Int64)), .second, .unset, .unset, .unset, .unset, .unset, .unset, .unset] [])) _
        refine XS.iload X0.here hx rfl (hb hby at_25) rfl ?_
        show Steps p.tables e below (s₁.setTop (mkF m 27 #[.val (.int p1), .val (.int p2), .val (.long q3), .second, .val (.int (2 : Int32)), .val (.long (1 : Int64)), .second, .val (.long (-4503599627370496 : Int64)), .second, .unset, .unset, .unset, .unset, .unset, .unset, .unset] [(.int (2 : Int32))])) _
        refine XS.ifYes X0.here hx rfl (pc0 := 27) (pc' := 69) rfl (hb hby at_27) rfl ((if0 _ _).trans (feq (by decide : ¬ ((2 : Int32) = (0 : Int32)))).2) (by decide) (by decide) ?_
        show Steps p.tables e below (s₁.setTop (mkF m 69 #[.val (.int p1), .val (.int p2), .val (.long q3), .second, .val (.int (2 : Int32)), .val (.long (1 : Int64)), .second, .val (.long (-4503599627370496 : Int64)), .second, .unset, .unset, .unset, .unset, .unset, .unset, .unset] [])) _
        refine XS.iload X0.here hx rfl (hb hby at_69) rfl ?_
        show Steps p.tables e below (s₁.setTop (mkF m 71 #[.val (.int p1), .val (.int p2), .val (.long q3), .second, .val (.int (2 : Int32)), .val (.long (1 : Int64)), .second, .val (.long (-4503599627370496 : Int64)), .second, .unset, .unset, .unset, .unset, .unset, .unset, .unset] [(.int (2 : Int32))])) _
        refine XS.iconst X0.here hx rfl (hb hby at_71) ?_
        show Steps p.tables e below (s₁.setTop (mkF m 72 #[.val (.int p1), .val (.int p2), .val (.long q3), .second, .val (.int (2 : Int32)), .val (.long (1 : Int64)), .second, .val (.long (-4503599627370496 : Int64)), .second, .unset, .unset, .unset, .unset, .unset, .unset, .unset] [(.int (1 : Int32)), (.int (2 : Int32))])) _
        refine XS.icmpYes X0.here hx rfl (pc0 := 72) (pc' := 114) rfl (hb hby at_72) rfl (feq (by decide : ¬ ((2 : Int32) = (1 : Int32)))).2 (by decide) (by decide) ?_
        show Steps p.tables e below (s₁.setTop (mkF m 114 #[.val (.int p1), .val (.int p2), .val (.long q3), .second, .val (.int (2 : Int32)), .val (.long (1 : Int64)), .second, .val (.long (-4503599627370496 : Int64)), .second, .unset, .unset, .unset, .unset, .unset, .unset, .unset] [])) _
        refine st50 _ ?_
        show Steps p.tables e below (T50.setTop (mkF m 117 #[.val (.int p1), .val (.int p2), .val (.long q3), .second, .val (.int (2 : Int32)), .val (.long (1 : Int64)), .second, .val (.long (-4503599627370496 : Int64)), .second, .unset, .unset, .unset, .unset, .unset, .unset, .unset] [(.ref w2)])) _
        refine XS.astore X50.here hx rfl (hb hby at_117) rfl rfl (l' := #[.val (.int p1), .val (.int p2), .val (.long q3), .second, .val (.int (2 : Int32)), .val (.long (1 : Int64)), .second, .val (.long (-4503599627370496 : Int64)), .second, .val (.ref w2), .unset, .unset, .unset, .unset, .unset, .unset]) rfl ?_
        show Steps p.tables e below (T50.setTop (mkF m 119 #[.val (.int p1), .val (.int p2), .val (.long q3), .second, .val (.int (2 : Int32)), .val (.long (1 : Int64)), .second, .val (.long (-4503599627370496 : Int64)), .second, .val (.ref w2), .unset, .unset, .unset, .unset, .unset, .unset] [])) _
        refine XS.lloadN X50.here hx rfl (hb hby at_119) rfl ?_
        show Steps p.tables e below (T50.setTop (mkF m 120 #[.val (.int p1), .val (.int p2), .val (.long q3), .second, .val (.int (2 : Int32)), .val (.long (1 : Int64)), .second, .val (.long (-4503599627370496 : Int64)), .second, .val (.ref w2), .unset, .unset, .unset, .unset, .unset, .unset] [(.long q3)])) _
        refine X50.ldc2Long hx hown (mvT hZ (hw _ (List.mem_of_getElem? (i := 23) rfl))) (g := (mkF m 120 #[.val (.int p1), .val (.int p2), .val (.long q3), .second, .val (.int (2 : Int32)), .val (.long (1 : Int64)), .second, .val (.long (-4503599627370496 : Int64)), .second, .val (.ref w2), .unset, .unset, .unset, .unset, .unset, .unset] [(.long q3)])) rfl (hb hby at_120) _ ?_
        show Steps p.tables e below (T50.setTop (mkF m 123 #[.val (.int p1), .val (.int p2), .val (.long q3), .second, .val (.int (2 : Int32)), .val (.long (1 : Int64)), .second, .val (.long (-4503599627370496 : Int64)), .second, .val (.ref w2), .unset, .unset, .unset, .unset, .unset, .unset] [(.long (4503599627370495 : Int64)), (.long q3)])) _
        refine XS.land X50.here hx rfl (hb hby at_123) rfl ?_
        show Steps p.tables e below (T50.setTop (mkF m 124 #[.val (.int p1), .val (.int p2), .val (.long q3), .second, .val (.int (2 : Int32)), .val (.long (1 : Int64)), .second, .val (.long (-4503599627370496 : Int64)), .second, .val (.ref w2), .unset, .unset, .unset, .unset, .unset, .unset] [(.long (q3 &&& (4503599627370495 : Int64)))])) _
        refine XS.lstore X50.here hx rfl (hb hby at_124) rfl (l' := #[.val (.int p1), .val (.int p2), .val (.long q3), .second, .val (.int (2 : Int32)), .val (.long (1 : Int64)), .second, .val (.long (-4503599627370496 : Int64)), .second, .val (.ref w2), .val (.long (q3 &&& (4503599627370495 : Int64))), .second, .unset, .unset, .unset, .unset]) rfl ?_
        show Steps p.tables e below (T50.setTop (mkF m 126 #[.val (.int p1), .val (.int p2), .val (.long q3), .second, .val (.int (2 : Int32)), .val (.long (1 : Int64)), .second, .val (.long (-4503599627370496 : Int64)), .second, .val (.ref w2), .val (.long (q3 &&& (4503599627370495 : Int64))), .second, .unset, .unset, .unset, .unset] [])) _
        exact kt
      obtain ⟨fr, hfr⟩ : ∃ z, z = (q3 &&& (4503599627370495 : Int64)) := ⟨_, rfl⟩
      rw [← hfr] at pre51
      have hm := c_maskL q3 (4503599627370495 : Int64) 52 (by decide) (by decide)
      rw [← hfr] at hm
      have hf0 : 0 ≤ fr.toInt := by omega
      have hf1 : fr.toInt < 4503599627370496 := by omega
      have pre52 : ∀ t, Steps p.tables e below (T50.setTop (mkF m 141 #[.val (.int p1), .val (.int p2), .val (.long q3), .second, .val (.int (2 : Int32)), .val (.long (1 : Int64)), .second, .val (.long (-4503599627370496 : Int64)), .second, .val (.ref w2), .val (.long fr), .second, .val (.long ((-4503599627370496 : Int64) ||| fr)), .second, .val (.long ((-4503599627370496 : Int64) ||| fr)), .second] [(.int (lcmpW fr (0 : Int64)))])) t → Steps p.tables e below (s₁.setTop (entryFrame m #[(.int p1), (.int p2), (.long q3)] maxLocals)) t := fun t kt => by
        refine pre51 _ ?_
        show Steps p.tables e below (T50.setTop (mkF m 126 #[.val (.int p1), .val (.int p2), .val (.long q3), .second, .val (.int (2 : Int32)), .val (.long (1 : Int64)), .second, .val (.long (-4503599627370496 : Int64)), .second, .val (.ref w2), .val (.long fr), .second, .unset, .unset, .unset, .unset] [])) _
        refine XS.lload X50.here hx rfl (hb hby at_126) rfl ?_
        show Steps p.tables e below (T50.setTop (mkF m 128 #[.val (.int p1), .val (.int p2), .val (.long q3), .second, .val (.int (2 : Int32)), .val (.long (1 : Int64)), .second, .val (.long (-4503599627370496 : Int64)), .second, .val (.ref w2), .val (.long fr), .second, .unset, .unset, .unset, .unset] [(.long (-4503599627370496 : Int64))])) _
        refine XS.lload X50.here hx rfl (hb hby at_128) rfl ?_
        show Steps p.tables e below (T50.setTop (mkF m 130 #[.val (.int p1), .val (.int p2), .val (.long q3), .second, .val (.int (2 : Int32)), .val (.long (1 : Int64)), .second, .val (.long (-4503599627370496 : Int64)), .second, .val (.ref w2), .val (.long fr), .second, .unset, .unset, .unset, .unset] [(.long fr), (.long (-4503599627370496 : Int64))])) _
        refine XS.lor X50.here hx rfl (hb hby at_130) rfl ?_
        show Steps p.tables e below (T50.setTop (mkF m 131 #[.val (.int p1), .val (.int p2), .val (.long q3), .second, .val (.int (2 : Int32)), .val (.long (1 : Int64)), .second, .val (.long (-4503599627370496 : Int64)), .second, .val (.ref w2), .val (.long fr), .second, .unset, .unset, .unset, .unset] [(.long ((-4503599627370496 : Int64) ||| fr))])) _
        refine XS.lstore X50.here hx rfl (hb hby at_131) rfl (l' := #[.val (.int p1), .val (.int p2), .val (.long q3), .second, .val (.int (2 : Int32)), .val (.long (1 : Int64)), .second, .val (.long (-4503599627370496 : Int64)), .second, .val (.ref w2), .val (.long fr), .second, .val (.long ((-4503599627370496 : Int64) ||| fr)), .second, .unset, .unset]) rfl ?_
        show Steps p.tables e below (T50.setTop (mkF m 133 #[.val (.int p1), .val (.int p2), .val (.long q3), .second, .val (.int (2 : Int32)), .val (.long (1 : Int64)), .second, .val (.long (-4503599627370496 : Int64)), .second, .val (.ref w2), .val (.long fr), .second, .val (.long ((-4503599627370496 : Int64) ||| fr)), .second, .unset, .unset] [])) _
        refine XS.lload X50.here hx rfl (hb hby at_133) rfl ?_
        show Steps p.tables e below (T50.setTop (mkF m 135 #[.val (.int p1), .val (.int p2), .val (.long q3), .second, .val (.int (2 : Int32)), .val (.long (1 : Int64)), .second, .val (.long (-4503599627370496 : Int64)), .second, .val (.ref w2), .val (.long fr), .second, .val (.long ((-4503599627370496 : Int64) ||| fr)), .second, .unset, .unset] [(.long ((-4503599627370496 : Int64) ||| fr))])) _
        refine XS.lstore X50.here hx rfl (hb hby at_135) rfl (l' := #[.val (.int p1), .val (.int p2), .val (.long q3), .second, .val (.int (2 : Int32)), .val (.long (1 : Int64)), .second, .val (.long (-4503599627370496 : Int64)), .second, .val (.ref w2), .val (.long fr), .second, .val (.long ((-4503599627370496 : Int64) ||| fr)), .second, .val (.long ((-4503599627370496 : Int64) ||| fr)), .second]) rfl ?_
        show Steps p.tables e below (T50.setTop (mkF m 137 #[.val (.int p1), .val (.int p2), .val (.long q3), .second, .val (.int (2 : Int32)), .val (.long (1 : Int64)), .second, .val (.long (-4503599627370496 : Int64)), .second, .val (.ref w2), .val (.long fr), .second, .val (.long ((-4503599627370496 : Int64) ||| fr)), .second, .val (.long ((-4503599627370496 : Int64) ||| fr)), .second] [])) _
        refine XS.lload X50.here hx rfl (hb hby at_137) rfl ?_
        show Steps p.tables e below (T50.setTop (mkF m 139 #[.val (.int p1), .val (.int p2), .val (.long q3), .second, .val (.int (2 : Int32)), .val (.long (1 : Int64)), .second, .val (.long (-4503599627370496 : Int64)), .second, .val (.ref w2), .val (.long fr), .second, .val (.long ((-4503599627370496 : Int64) ||| fr)), .second, .val (.long ((-4503599627370496 : Int64) ||| fr)), .second] [(.long fr)])) _
        refine XS.lconst X50.here hx rfl (hb hby at_139) ?_
        show Steps p.tables e below (T50.setTop (mkF m 140 #[.val (.int p1), .val (.int p2), .val (.long q3), .second, .val (.int (2 : Int32)), .val (.long (1 : Int64)), .second, .val (.long (-4503599627370496 : Int64)), .second, .val (.ref w2), .val (.long fr), .second, .val (.long ((-4503599627370496 : Int64) ||| fr)), .second, .val (.long ((-4503599627370496 : Int64) ||| fr)), .second] [(.long (0 : Int64)), (.long fr)])) _
        refine XS.lcmp X50.here hx rfl (hb hby at_140) rfl ?_
        show Steps p.tables e below (T50.setTop (mkF m 141 #[.val (.int p1), .val (.int p2), .val (.long q3), .second, .val (.int (2 : Int32)), .val (.long (1 : Int64)), .second, .val (.long (-4503599627370496 : Int64)), .second, .val (.ref w2), .val (.long fr), .second, .val (.long ((-4503599627370496 : Int64) ||| fr)), .second, .val (.long ((-4503599627370496 : Int64) ||| fr)), .second] [(.int (lcmpW fr (0 : Int64)))])) _
        exact kt
      rcases Decidable.em ((lcmpW fr (0 : Int64)) = (0 : Int32)) with hc141_53 | hc141_53
      ·
        obtain ⟨fs, hr, hrun, hended, hW, hsame⟩ := X50.leave (v := some (.int (1 : Int32))) (fun h => by rw [Bd.returns] at h; cases h)
        refine ⟨_, _, pre52 _ ?_, hrun, hended, _, _, rfl, ?_, ⟨_, rfl⟩, hW, hsame.mono (by decide) (by decide)⟩
        ·
          show Steps p.tables e below (T50.setTop (mkF m 141 #[.val (.int p1), .val (.int p2), .val (.long q3), .second, .val (.int (2 : Int32)), .val (.long (1 : Int64)), .second, .val (.long (-4503599627370496 : Int64)), .second, .val (.ref w2), .val (.long fr), .second, .val (.long ((-4503599627370496 : Int64) ||| fr)), .second, .val (.long ((-4503599627370496 : Int64) ||| fr)), .second] [(.int (lcmpW fr (0 : Int64)))])) _
          refine XS.ifNo X50.here hx rfl (hb hby at_141) rfl ((if0 _ _).trans (teq hc141_53).2) ?_
          show Steps p.tables e below (T50.setTop (mkF m 144 #[.val (.int p1), .val (.int p2), .val (.long q3), .second, .val (.int (2 : Int32)), .val (.long (1 : Int64)), .second, .val (.long (-4503599627370496 : Int64)), .second, .val (.ref w2), .val (.long fr), .second, .val (.long ((-4503599627370496 : Int64) ||| fr)), .second, .val (.long ((-4503599627370496 : Int64) ||| fr)), .second] [])) _
          refine XS.iconst X50.here hx rfl (hb hby at_144) ?_
          show Steps p.tables e below (T50.setTop (mkF m 145 #[.val (.int p1), .val (.int p2), .val (.long q3), .second, .val (.int (2 : Int32)), .val (.long (1 : Int64)), .second, .val (.long (-4503599627370496 : Int64)), .second, .val (.ref w2), .val (.long fr), .second, .val (.long ((-4503599627370496 : Int64) ||| fr)), .second, .val (.long ((-4503599627370496 : Int64) ||| fr)), .second] [(.int (1 : Int32))])) _
          exact retN X50 hx (t := .boolean) Bd.returns (by simp) (hb hby at_145) hr
        ·
          show Q_rm0 Z p1 p2 q3 w0 w1 w2 h0 n0 (_) T50.heap (_)
          rw [e50]
          exact ⟨rfl, N0⟩
      ·
        obtain ⟨cq54, kq54, q54a, q54b, q54c⟩ := isOf hZ e50 E2
        obtain ⟨_, _, ⟨T54, L54, k54, n54⟩, -, X54, ⟨Lc54, hQ54, l54, y54, z54⟩, st54⟩ := X50.virtualBack hx (y := (⟨"com/example/chronotag/chronotag/codec/FloatFormat", "narrowNaN", "(J)J"⟩ : MethodName)) (z := (⟨"com/example/chronotag/chronotag/codec/FloatFormat", "narrowNaN", "(J)J"⟩ : MethodName)) hown (mvT hZ (hw _ (List.mem_of_getElem? (i := 7) rfl))) (mvT hZ (hw _ (List.mem_of_getElem? (i := 8) rfl))) (notFace_of_selects (args := #[]) (mvT hZ (hw _ (List.mem_of_getElem? (i := 10) rfl)))) (mvT hZ (hw _ (List.mem_of_getElem? (i := 10) rfl))) (mvT hZ (hw _ (List.mem_of_getElem? (i := 9) rfl))) (by decide) (backOf (W := 0) (rmF2 l Z a0 hw [] w2 ((-4503599627370496 : Int64) ||| fr) h0 n0 Z0 F2w F2f) hZ (hw _ (List.mem_of_getElem? (i := 11) rfl)) (hw _ (List.mem_of_getElem? (i := 3) rfl)) (by decide) (by decide)) q54a q54c (g := (mkF m 150 #[.val (.int p1), .val (.int p2), .val (.long q3), .second, .val (.int (2 : Int32)), .val (.long (1 : Int64)), .second, .val (.long (-4503599627370496 : Int64)), .second, .val (.ref w2), .val (.long fr), .second, .val (.long ((-4503599627370496 : Int64) ||| fr)), .second, .val (.long ((-4503599627370496 : Int64) ||| fr)), .second] [(.long ((-4503599627370496 : Int64) ||| fr)), (.ref w2)])) rfl (by rw [hml]; rfl) (Steps.refl _) (argsL := [(.long ((-4503599627370496 : Int64) ||| fr))]) (rest := []) (lenOf own_pd0 rfl) rfl (by show 2 * 0 + _ ≤ _; exact Nat.le_of_eq rfl) (hb hby at_150) (fun _ _ => ⟨rfl, e50, (by decide : 0 + 0 ≤ _), (by decide : 0 + 0 ≤ _)⟩)
        dsimp only [Pt.U, Pt.locs, Pt.cells, Pt.slots] at X54 l54 y54 z54 st54 hQ54
        subst l54 y54 z54
        obtain ⟨rfl, N54q, eq54⟩ := hQ54
        have N54 := Fr.app N0 N54q
        obtain ⟨fs, hr, hrun, hended, hW, hsame⟩ := X54.leave (v := some (.int (1 : Int32))) (fun h => by rw [Bd.returns] at h; cases h)
        refine ⟨_, _, pre52 _ ?_, hrun, hended, _, _, rfl, ?_, ⟨_, rfl⟩, hW, hsame.mono (by decide) (by decide)⟩
        ·
          show Steps p.tables e below (T50.setTop (mkF m 141 #[.val (.int p1), .val (.int p2), .val (.long q3), .second, .val (.int (2 : Int32)), .val (.long (1 : Int64)), .second, .val (.long (-4503599627370496 : Int64)), .second, .val (.ref w2), .val (.long fr), .second, .val (.long ((-4503599627370496 : Int64) ||| fr)), .second, .val (.long ((-4503599627370496 : Int64) ||| fr)), .second] [(.int (lcmpW fr (0 : Int64)))])) _
          refine XS.ifYes X50.here hx rfl (pc0 := 141) (pc' := 146) rfl (hb hby at_141) rfl ((if0 _ _).trans (feq hc141_53).2) (by decide) (by decide) ?_
          show Steps p.tables e below (T50.setTop (mkF m 146 #[.val (.int p1), .val (.int p2), .val (.long q3), .second, .val (.int (2 : Int32)), .val (.long (1 : Int64)), .second, .val (.long (-4503599627370496 : Int64)), .second, .val (.ref w2), .val (.long fr), .second, .val (.long ((-4503599627370496 : Int64) ||| fr)), .second, .val (.long ((-4503599627370496 : Int64) ||| fr)), .second] [])) _
          refine XS.aload X50.here hx rfl (hb hby at_146) rfl rfl ?_
          show Steps p.tables e below (T50.setTop (mkF m 148 #[.val (.int p1), .val (.int p2), .val (.long q3), .second, .val (.int (2 : Int32)), .val (.long (1 : Int64)), .second, .val (.long (-4503599627370496 : Int64)), .second, .val (.ref w2), .val (.long fr), .second, .val (.long ((-4503599627370496 : Int64) ||| fr)), .second, .val (.long ((-4503599627370496 : Int64) ||| fr)), .second] [(.ref w2)])) _
          refine XS.lload X50.here hx rfl (hb hby at_148) rfl ?_
          show Steps p.tables e below (T50.setTop (mkF m 150 #[.val (.int p1), .val (.int p2), .val (.long q3), .second, .val (.int (2 : Int32)), .val (.long (1 : Int64)), .second, .val (.long (-4503599627370496 : Int64)), .second, .val (.ref w2), .val (.long fr), .second, .val (.long ((-4503599627370496 : Int64) ||| fr)), .second, .val (.long ((-4503599627370496 : Int64) ||| fr)), .second] [(.long ((-4503599627370496 : Int64) ||| fr)), (.ref w2)])) _
          refine st54.trans ?_
          show Steps p.tables e below (T54.setTop (mkF m 153 #[.val (.int p1), .val (.int p2), .val (.long q3), .second, .val (.int (2 : Int32)), .val (.long (1 : Int64)), .second, .val (.long (-4503599627370496 : Int64)), .second, .val (.ref w2), .val (.long fr), .second, .val (.long ((-4503599627370496 : Int64) ||| fr)), .second, .val (.long ((-4503599627370496 : Int64) ||| fr)), .second] [(.long (((((((-4503599627370496 : Int64) ||| fr).toUInt64 >>> ((63 : Int32) &&& 0x3f).toInt64.toUInt64).toInt64) <<< ((63 : Int32) &&& 0x3f).toInt64) ||| (9218868437227405312 : Int64)) ||| (((((-4503599627370496 : Int64) ||| fr) &&& (4503599627370495 : Int64)).toUInt64 >>> ((0 : Int32) &&& 0x3f).toInt64.toUInt64).toInt64)))])) _
          refine XS.lload X54.here hx rfl (hb hby at_153) rfl ?_
          show Steps p.tables e below (T54.setTop (mkF m 155 #[.val (.int p1), .val (.int p2), .val (.long q3), .second, .val (.int (2 : Int32)), .val (.long (1 : Int64)), .second, .val (.long (-4503599627370496 : Int64)), .second, .val (.ref w2), .val (.long fr), .second, .val (.long ((-4503599627370496 : Int64) ||| fr)), .second, .val (.long ((-4503599627370496 : Int64) ||| fr)), .second] [(.long ((-4503599627370496 : Int64) ||| fr)), (.long (((((((-4503599627370496 : Int64) ||| fr).toUInt64 >>> ((63 : Int32) &&& 0x3f).toInt64.toUInt64).toInt64) <<< ((63 : Int32) &&& 0x3f).toInt64) ||| (9218868437227405312 : Int64)) ||| (((((-4503599627370496 : Int64) ||| fr) &&& (4503599627370495 : Int64)).toUInt64 >>> ((0 : Int32) &&& 0x3f).toInt64.toUInt64).toInt64)))])) _
          refine XS.lcmp X54.here hx rfl (hb hby at_155) rfl ?_
          show Steps p.tables e below (T54.setTop (mkF m 156 #[.val (.int p1), .val (.int p2), .val (.long q3), .second, .val (.int (2 : Int32)), .val (.long (1 : Int64)), .second, .val (.long (-4503599627370496 : Int64)), .second, .val (.ref w2), .val (.long fr), .second, .val (.long ((-4503599627370496 : Int64) ||| fr)), .second, .val (.long ((-4503599627370496 : Int64) ||| fr)), .second] [(.int (lcmpW (((((((-4503599627370496 : Int64) ||| fr).toUInt64 >>> ((63 : Int32) &&& 0x3f).toInt64.toUInt64).toInt64) <<< ((63 : Int32) &&& 0x3f).toInt64) ||| (9218868437227405312 : Int64)) ||| (((((-4503599627370496 : Int64) ||| fr) &&& (4503599627370495 : Int64)).toUInt64 >>> ((0 : Int32) &&& 0x3f).toInt64.toUInt64).toInt64)) ((-4503599627370496 : Int64) ||| fr)))])) _
          refine XS.ifNo X54.here hx rfl (hb hby at_156) rfl ((if0 _ _).trans (teq ((lw_eq _ _).mpr (own_n_2_1 fr hf0 hf1))).2) ?_
          show Steps p.tables e below (T54.setTop (mkF m 159 #[.val (.int p1), .val (.int p2), .val (.long q3), .second, .val (.int (2 : Int32)), .val (.long (1 : Int64)), .second, .val (.long (-4503599627370496 : Int64)), .second, .val (.ref w2), .val (.long fr), .second, .val (.long ((-4503599627370496 : Int64) ||| fr)), .second, .val (.long ((-4503599627370496 : Int64) ||| fr)), .second] [])) _
          refine XS.iconst X54.here hx rfl (hb hby at_159) ?_
          show Steps p.tables e below (T54.setTop (mkF m 160 #[.val (.int p1), .val (.int p2), .val (.long q3), .second, .val (.int (2 : Int32)), .val (.long (1 : Int64)), .second, .val (.long (-4503599627370496 : Int64)), .second, .val (.ref w2), .val (.long fr), .second, .val (.long ((-4503599627370496 : Int64) ||| fr)), .second, .val (.long ((-4503599627370496 : Int64) ||| fr)), .second] [(.int (1 : Int32))])) _
          refine XS.goto X54.here hx rfl (pc0 := 160) (pc' := 164) rfl (hb hby at_160) (by decide) (by decide) ?_
          show Steps p.tables e below (T54.setTop (mkF m 164 #[.val (.int p1), .val (.int p2), .val (.long q3), .second, .val (.int (2 : Int32)), .val (.long (1 : Int64)), .second, .val (.long (-4503599627370496 : Int64)), .second, .val (.ref w2), .val (.long fr), .second, .val (.long ((-4503599627370496 : Int64) ||| fr)), .second, .val (.long ((-4503599627370496 : Int64) ||| fr)), .second] [(.int (1 : Int32))])) _
          exact retN X54 hx (t := .boolean) Bd.returns (by simp) (hb hby at_164) hr
        ·
          show Q_rm0 Z p1 p2 q3 w0 w1 w2 h0 n0 (_) T54.heap (_)
          rw [eq54]
          exact ⟨rfl, N54⟩
set_option maxRecDepth 65536 in
set_option maxHeartbeats 40000000 in
theorem comes_1 {Post : Tables → Env → Array Value → State → Outcome → State → Prop} (hpost : ∀ tb e args s v u, (limb_1_1.after args s (.returned v) u = true ∧ limb_1_2.after args s (.returned v) u = true ∧ True) → FrameEnd s (.returned v) u (Jvm.fieldLocs frame_1_writes args s ++ Jvm.arrayLocs frame_1_arrays args s ++ Jvm.staticLocs frame_1_statics s) 0 0 → Post tb e args s (.returned v) u) :
    ArmFor flags0 classFile x code maxLocals ret World_1 tables_1 room_1 Calls_1 rest_1 Pre_1 Post := by
  intro l hfl _ _ p e ha hc hk s m args below hf hA hF happ hP
  obtain ⟨hcalls, hrest, hpre⟩ := hP
  obtain ⟨-, -, -, hnamed, -, -, -, hat⟩ := (Spec.applies_iff hf).mp happ
  obtain ⟨hg, hn⟩ := and_e (Cond.before_iff.mp (show (Jvm.Cond.and given_1 narrow_1).before args s = true from hpre))
  obtain ⟨g1, g2⟩ := and_e hg
  obtain ⟨g3, g4⟩ := and_e g2
  obtain ⟨g5, g6⟩ := and_e g4
  obtain ⟨w0, w1, w2, rfl⟩ : ∃ w0 w1 w2 : Value, args = #[w0, w1, w2] := by
    have hs : args.size = 3 := by simpa [Cond.value, given_1] using g1
    obtain ⟨L⟩ := args
    match L, hs with
    | [w0, w1, w2], _ => exact ⟨w0, w1, w2, rfl⟩
  have hw := fun d (hd : d ∈ tables_1) => atoms_spec (ws := Jvm.Cond.code x code maxLocals ret :: tables_1) hat d (List.mem_cons_of_mem _ hd)
  have hfit : Fit s := fun {y c} hc i hi => by
    obtain ⟨ha, rfl⟩ := Array.getElem?_eq_some_iff.mp hc
    have q := List.all_eq_true.mp ((Array.all_eq_true_iff_forall_mem.mp hF) _ (Array.getElem_mem ha)) i (List.mem_range.mpr hi)
    simpa [Array.getElem?_eq_getElem hi] using q
  obtain ⟨i0, ei0⟩ := is_v g3
  obtain rfl : w0 = (.int i0) := Option.some.inj ei0
  obtain ⟨i1, ei1⟩ := is_v g5
  obtain rfl : w1 = (.int i1) := Option.some.inj ei1
  obtain ⟨i2, ei2⟩ := isL_v g6
  obtain rfl : w2 = (.long i2) := Option.some.inj ei2
  obtain ⟨g7, g8⟩ := and_e hn
  obtain ⟨g9, g10⟩ := and_e g8
  obtain ⟨g11, g12⟩ := and_e g10
  obtain ⟨g13, g14⟩ := and_e g12
  obtain ⟨g15, g16⟩ := and_e g14
  obtain ⟨g17, g18⟩ := and_e g16
  obtain ⟨g19, g20⟩ := and_e g18
  obtain ⟨g21, g22⟩ := and_e g20
  obtain ⟨w_HALF, ev_HALF⟩ := exa_v g7
  have S_HALF := Sta.start ev_HALF (Or.inr ⟨(hw _ (List.mem_of_getElem? (i := 3) rfl)), (hw _ (List.mem_of_getElem? (i := 4) rfl))⟩)
  have E_HALF := Exa.start ev_HALF g7
  have F_HALF_width := own_fldI ev_HALF g9
  have F_HALF_fractionWidth := own_fldI ev_HALF g11
  obtain ⟨w_SINGLE, ev_SINGLE⟩ := exa_v g13
  have S_SINGLE := Sta.start ev_SINGLE (Or.inr ⟨(hw _ (List.mem_of_getElem? (i := 3) rfl)), (hw _ (List.mem_of_getElem? (i := 18) rfl))⟩)
  have E_SINGLE := Exa.start ev_SINGLE g13
  have F_SINGLE_width := own_fldI ev_SINGLE g15
  have F_SINGLE_fractionWidth := own_fldI ev_SINGLE g17
  obtain ⟨w_DOUBLE, ev_DOUBLE⟩ := exa_v g19
  have S_DOUBLE := Sta.start ev_DOUBLE (Or.inr ⟨(hw _ (List.mem_of_getElem? (i := 3) rfl)), (hw _ (List.mem_of_getElem? (i := 22) rfl))⟩)
  have E_DOUBLE := Exa.start ev_DOUBLE g19
  have F_DOUBLE_width := own_fldI ev_DOUBLE g21
  have F_DOUBLE_fractionWidth := own_fldI ev_DOUBLE g22
  obtain ⟨n, o, h1, h2, h3, _, L, rfl, ⟨rfl, N⟩, hq⟩ := rm0 l s _ hw tables_1 i0 i1 i2 w_HALF w_SINGLE w_DOUBLE s.heap s.heap.size (Nat.le_refl _) S_HALF E_HALF F_HALF_width F_HALF_fractionWidth S_SINGLE E_SINGLE F_SINGLE_width F_SINGLE_fractionWidth S_DOUBLE E_DOUBLE F_DOUBLE_width F_DOUBLE_fractionWidth p e ha hc hk s m _ below hf ((Spec.applies_iff_loose hf).mp happ).1 ⟨rfl, State.Warmed39.refl s, rfl⟩ trivial
  refine ⟨n, _, h1, h2, h3, hpost _ _ _ _ _ _ ⟨Cond.after_iff.mpr rfl, Cond.after_iff.mpr (eq_i res_at (Term.int_eval (1)) rfl), trivial⟩ ⟨hq.1, hq.2.1, (hq.2.2.sift fun y hy => Or.inr (N y hy)).mono (by decide) (by decide)⟩⟩
theorem main_1_1 : Claimed_1_1 := comes_1 fun _ _ _ _ _ _ h hF => ⟨h.1, hF⟩
theorem main_1_2 : Claimed_1_2 := comes_1 fun _ _ _ _ _ _ h hF => ⟨h.2.1, hF⟩
end Jvm.Pilot.@@N@@
namespace Jvm.Pilot.@@N@@
open Jvm Jvm.ClassFile Sem Op Lib Jvm.Free Jvm.Stand Jvm.Pilot.@@N@@.Jvm.D
/-! MADE BY PROGRAM (witnessworld.py) out of the Statement's table words and the real class files: 12 classes; the members and pool entries that the words name. The judged class is class 1, her method 1. -/
namespace start1
open Jvm.ClassFile
def u (s : String) : CpInfo := .utf8 (stringToUtf16 s)
/-- a pool by its gaps: so many unusable entries, then the entry; so many at the end -/
def gap : Nat → List CpInfo → List CpInfo
  | 0, r => r
  | n + 1, r => .unusable :: gap n r
def poolList (es : List (Nat × CpInfo)) (last : Nat) : List CpInfo := es.foldr (fun e r => gap e.1 (e.2 :: r)) (gap last [])
def pool (es : List (Nat × CpInfo)) (last : Nat) : Array CpInfo := ⟨poolList es last⟩
def fileOf (pool : Array CpInfo) (this : Nat) (attrs : Array Attribute := #[]) (ms : Array MethodInfo := #[]) (fl : Nat := 33) (sup : Nat := 0) (ifs : Array Nat := #[]) (fds : Array FieldInfo := #[]) : ClassFile where
  minorVersion := 0
  majorVersion := 65
  constantPool := pool
  accessFlags := fl
  thisClass := this
  superClass := sup
  interfaces := ifs
  fields := fds
  methods := ms
  attributes := attrs
def plain (name : String) (sup : Option ClassId) : Class where
  name := name
  kind := .ordinary
  loader := none
  accessFlags := 33
  super := sup
  interfaces := #[]
  cf := none
  fields := #[]
  methods := #[]
  instanceTypes := #[]
  staticTypes := #[]
  resolved := #[]
  callSites := []
  init := .initialized
  statics := none
  mirror := none

def pool0 : Array CpInfo := pool [(5, u "<init>"), (0, u "()V"), (1, .class_ 10), (1, u "java/lang/Object")] 113

def k0m0 : Method := { name := "<init>", desc := "()V", sig := { parameters := [], returnType := none }, accessFlags := 1, code := none }
/-- java/lang/Object -/
def k0 : Class := { plain "java/lang/Object" none with
  accessFlags := 33
  interfaces := #[]
  cf := some (fileOf pool0 8 #[] #[{ accessFlags := 1, nameIndex := 5, descriptorIndex := 6, attributes := #[] }] 33 0 #[] #[])
  fields := #[]
  methods := #[k0m0]
  instanceTypes := #[]
  staticTypes := #[]
  resolved := Array.replicate 124 none
  statics := none }

def pool1 : Array CpInfo := pool [(2, .class_ 4), (1, u "java/lang/Object"), (0, u "<init>"), (0, u "()V"), (0, .integer 2147483647), (0, .long 9218868437227405312), (1, .fieldref 11 12), (0, .class_ 13), (0, .nameAndType 14 15), (0, u "com/example/chronotag/chronotag/codec/FloatFormat"), (0, u "HALF"), (0, u "Lcom/example/chronotag/chronotag/codec/FloatFormat;"), (0, .long 1023), (1, .long 31744), (1, .fieldref 11 21), (0, .nameAndType 22 15), (0, u "SINGLE"), (0, .long 8388607), (1, .long 2139095040), (1, .fieldref 11 28), (0, .nameAndType 29 15), (0, u "DOUBLE"), (0, .long 4503599627370495), (1, .methodref 11 33), (0, .nameAndType 34 35), (0, u "narrowNaN"), (0, u "(J)J"), (0, .class_ 37), (0, u "com/example/chronotag/chronotag/codec/FloatFormatNarrowNaNPinLaw"), (2, u "law"), (0, u "(IIJ)Z")] 3

def k1m0 : Method := { name := "<init>", desc := "()V", sig := { parameters := [], returnType := none }, accessFlags := 2, code := none }
def k1c1 : Code := { maxStack := 5, maxLocals := 16, code := code, exceptionTable := #[], attributes := #[] }
def k1m1 : Method := { name := "law", desc := "(IIJ)Z", sig := { parameters := [.int, .int, .long], returnType := some .boolean }, accessFlags := 9, code := some k1c1 }
/-- com/example/chronotag/chronotag/codec/FloatFormatNarrowNaNPinLaw -/
def k1 : Class := { plain "com/example/chronotag/chronotag/codec/FloatFormatNarrowNaNPinLaw" (some 0) with
  accessFlags := 49
  interfaces := #[]
  cf := some (fileOf pool1 36 #[] #[{ accessFlags := 2, nameIndex := 5, descriptorIndex := 6, attributes := #[] }, { accessFlags := 9, nameIndex := 40, descriptorIndex := 41, attributes := #[] }] 49 2 #[] #[])
  fields := #[]
  methods := #[k1m0, k1m1]
  instanceTypes := #[]
  staticTypes := #[]
  resolved := Array.replicate 45 none
  statics := none }

def pool2 : Array CpInfo := pool [(1, .class_ 2), (0, u "java/lang/constant/Constable"), (0, .class_ 4), (0, u "java/lang/Object")] 6

/-- java/lang/constant/Constable -/
def k2 : Class := { plain "java/lang/constant/Constable" (some 0) with
  accessFlags := 1537
  interfaces := #[]
  cf := some (fileOf pool2 1 #[] #[] 1537 3 #[] #[])
  fields := #[]
  methods := #[]
  instanceTypes := #[]
  staticTypes := #[]
  resolved := Array.replicate 11 none
  statics := none }

def pool3 : Array CpInfo := pool [(1, .class_ 2), (0, u "java/lang/Comparable"), (0, .class_ 4), (0, u "java/lang/Object")] 7

/-- java/lang/Comparable -/
def k3 : Class := { plain "java/lang/Comparable" (some 0) with
  accessFlags := 1537
  interfaces := #[]
  cf := some (fileOf pool3 1 #[] #[] 1537 3 #[] #[])
  fields := #[]
  methods := #[]
  instanceTypes := #[]
  staticTypes := #[]
  resolved := Array.replicate 12 none
  statics := none }

def pool4 : Array CpInfo := pool [(1, .class_ 2), (0, u "java/io/Serializable"), (0, .class_ 4), (0, u "java/lang/Object")] 2

/-- java/io/Serializable -/
def k4 : Class := { plain "java/io/Serializable" (some 0) with
  accessFlags := 1537
  interfaces := #[]
  cf := some (fileOf pool4 1 #[] #[] 1537 3 #[] #[])
  fields := #[]
  methods := #[]
  instanceTypes := #[]
  staticTypes := #[]
  resolved := Array.replicate 7 none
  statics := none }

def pool5 : Array CpInfo := pool [(2, .class_ 4), (1, u "java/lang/Enum"), (0, u "name"), (0, u "Ljava/lang/String;"), (2, u "ordinal"), (0, u "I"), (1, .class_ 14), (1, u "java/lang/Object"), (4, u "hash"), (86, .class_ 108), (1, u "java/lang/Enum$EnumDesc"), (2, .class_ 112), (0, u "java/lang/constant/Constable"), (0, .class_ 114), (0, u "java/lang/Comparable"), (0, .class_ 116), (0, u "java/io/Serializable")] 87

/-- java/lang/Enum -/
def k5 : Class := { plain "java/lang/Enum" (some 0) with
  accessFlags := 1057
  interfaces := #[2, 3, 4]
  cf := some (fileOf pool5 2 #[.nestMembers #[106]] #[] 1057 12 #[111, 113, 115] #[{ accessFlags := 18, nameIndex := 5, descriptorIndex := 6, attributes := #[] }, { accessFlags := 18, nameIndex := 9, descriptorIndex := 10, attributes := #[] }, { accessFlags := 2, nameIndex := 19, descriptorIndex := 10, attributes := #[] }])
  fields := #[{ name := "name", type := (.object "java/lang/String"), accessFlags := 18, slot := 0, constantValue := 0 }, { name := "ordinal", type := .int, accessFlags := 18, slot := 1, constantValue := 0 }, { name := "hash", type := .int, accessFlags := 2, slot := 2, constantValue := 0 }]
  methods := #[]
  instanceTypes := #[(.object "java/lang/String"), .int, .int]
  staticTypes := #[]
  resolved := Array.replicate 204 none
  statics := none }

def pool6 : Array CpInfo := pool [(1, .class_ 2), (0, u "com/example/chronotag/chronotag/codec/FloatFormat"), (2, u "HALF"), (0, u "Lcom/example/chronotag/chronotag/codec/FloatFormat;"), (2, u "SINGLE"), (2, u "DOUBLE"), (2, u "$VALUES"), (0, u "[Lcom/example/chronotag/chronotag/codec/FloatFormat;"), (6, .class_ 25), (1, u "java/lang/Enum"), (6, .fieldref 1 33), (0, .nameAndType 34 35), (0, u "width"), (0, u "I"), (0, .fieldref 1 37), (0, .nameAndType 38 35), (0, u "fractionWidth"), (2, u "BY_ADDITIONAL_INFO"), (8, .long 4503599627370495), (28, u "DOUBLE_EXPONENT_BITS"), (0, u "J"), (1, u "DOUBLE_FRACTION_WIDTH"), (1, u "DOUBLE_FRACTION_BITS"), (13, u "(J)J"), (0, u "narrowNaN")] 5

def k6c0 : Code := { maxStack := 5, maxLocals := 9, code := prog_11_method_10_code, exceptionTable := #[], attributes := #[] }
def k6m0 : Method := { name := "narrowNaN", desc := "(J)J", sig := { parameters := [.long], returnType := some .long }, accessFlags := 0, code := some k6c0 }
/-- com/example/chronotag/chronotag/codec/FloatFormat -/
def k6 : Class := { plain "com/example/chronotag/chronotag/codec/FloatFormat" (some 5) with
  accessFlags := 16432
  interfaces := #[]
  cf := some (fileOf pool6 1 #[] #[{ accessFlags := 0, nameIndex := 99, descriptorIndex := 98, attributes := #[] }] 16432 23 #[] #[{ accessFlags := 16409, nameIndex := 5, descriptorIndex := 6, attributes := #[] }, { accessFlags := 16409, nameIndex := 9, descriptorIndex := 6, attributes := #[] }, { accessFlags := 16409, nameIndex := 12, descriptorIndex := 6, attributes := #[] }, { accessFlags := 24, nameIndex := 79, descriptorIndex := 80, attributes := #[] }, { accessFlags := 24, nameIndex := 82, descriptorIndex := 35, attributes := #[] }, { accessFlags := 24, nameIndex := 84, descriptorIndex := 80, attributes := #[] }, { accessFlags := 26, nameIndex := 41, descriptorIndex := 16, attributes := #[] }, { accessFlags := 18, nameIndex := 34, descriptorIndex := 35, attributes := #[] }, { accessFlags := 18, nameIndex := 38, descriptorIndex := 35, attributes := #[] }, { accessFlags := 4122, nameIndex := 15, descriptorIndex := 16, attributes := #[] }])
  fields := #[{ name := "HALF", type := (.object "com/example/chronotag/chronotag/codec/FloatFormat"), accessFlags := 16409, slot := 0, constantValue := 0 }, { name := "SINGLE", type := (.object "com/example/chronotag/chronotag/codec/FloatFormat"), accessFlags := 16409, slot := 1, constantValue := 0 }, { name := "DOUBLE", type := (.object "com/example/chronotag/chronotag/codec/FloatFormat"), accessFlags := 16409, slot := 2, constantValue := 0 }, { name := "DOUBLE_EXPONENT_BITS", type := .long, accessFlags := 24, slot := 3, constantValue := 0 }, { name := "DOUBLE_FRACTION_WIDTH", type := .int, accessFlags := 24, slot := 4, constantValue := 0 }, { name := "DOUBLE_FRACTION_BITS", type := .long, accessFlags := 24, slot := 5, constantValue := 0 }, { name := "BY_ADDITIONAL_INFO", type := (.array (.object "com/example/chronotag/chronotag/codec/FloatFormat")), accessFlags := 26, slot := 6, constantValue := 0 }, { name := "width", type := .int, accessFlags := 18, slot := 3, constantValue := 0 }, { name := "fractionWidth", type := .int, accessFlags := 18, slot := 4, constantValue := 0 }, { name := "$VALUES", type := (.array (.object "com/example/chronotag/chronotag/codec/FloatFormat")), accessFlags := 4122, slot := 7, constantValue := 0 }]
  methods := #[k6m0]
  instanceTypes := #[(.object "java/lang/String"), .int, .int, .int, .int]
  staticTypes := #[(.object "com/example/chronotag/chronotag/codec/FloatFormat"), (.object "com/example/chronotag/chronotag/codec/FloatFormat"), (.object "com/example/chronotag/chronotag/codec/FloatFormat"), .long, .int, .long, (.array (.object "com/example/chronotag/chronotag/codec/FloatFormat")), (.array (.object "com/example/chronotag/chronotag/codec/FloatFormat"))]
  resolved := Array.replicate 105 none
  statics := some 0 }

def pool7 : Array CpInfo := pool [(1, u "java/lang/Cloneable"), (0, .class_ 1), (0, u "java/lang/Object"), (0, .class_ 3)] 3

/-- java/lang/Cloneable -/
def k7 : Class := { plain "java/lang/Cloneable" (some 0) with
  accessFlags := 1537
  interfaces := #[]
  cf := some (fileOf pool7 2 #[] #[] 1537 4 #[] #[])
  fields := #[]
  methods := #[]
  instanceTypes := #[]
  staticTypes := #[]
  resolved := Array.replicate 8 none
  statics := none }

/-- the primitive byte -/
def k8 : Class := { plain "byte" none with kind := .primitive 'B', accessFlags := 0x411 }
/-- [B -/
def k9 : Class := { plain "[B" (some 0) with kind := .array 8 .byte, interfaces := #[7, 4], accessFlags := 1041 }

/-- the primitive int -/
def k10 : Class := { plain "int" none with kind := .primitive 'I', accessFlags := 0x411 }
/-- [I -/
def k11 : Class := { plain "[I" (some 0) with kind := .array 10 .int, interfaces := #[7, 4], accessFlags := 1041 }

def heap : Heap := #[{ cls := 6, slots := #[.ref 1, .ref 2, .ref 3, .long 0, .int 0, .long 0, .null, .null], vm := .statics 6 },
  { cls := 6, slots := #[.null, .int 0, .int 0, .int 16, .int 10], vm := .none },
  { cls := 6, slots := #[.null, .int 1, .int 0, .int 32, .int 23], vm := .none },
  { cls := 6, slots := #[.null, .int 2, .int 0, .int 64, .int 52], vm := .none }]
def classes : Array Class := #[k0, k1, k2, k3, k4, k5, k6, k7, k8, k9, k10, k11]
def interned : List (Array UInt16 × Addr) := []
def slotsUsed : Nat := 23
def theMethod : MethodId := ⟨1, 1⟩
def args0 : Array Value := #[.int 3, .int 4, .long 5]
def aboutOver (below : List Frame) : State where
  vm := { classes := classes, interned := interned.toArray }
  heap := heap
  slotsUsed := slotsUsed
  threads := #[{ frames := .invoking theMethod args0 :: below }]
def below0 : List Frame := [.native { method := ⟨0, 0⟩, args := #[] }]
def about1 : State := aboutOver below0
def p0 : Program := .bare "" "" ""
def e0 : Env := launch0.env 0 0 0
theorem w_frames : about1.frames = Frame.invoking theMethod args0 :: below0 := rfl
set_option maxRecDepth 65536 in
theorem w_args : argsFit about1.vm theMethod args0 = true := by decide +kernel
set_option maxRecDepth 65536 in
theorem w_heap : heapFits about1 = true := by decide +kernel
set_option maxRecDepth 65536 in
theorem w_runnable : about1.curStatus? = some .runnable := by decide +kernel
set_option maxRecDepth 65536 in
theorem w_alone : about1.alone = true := by decide +kernel
set_option maxRecDepth 65536 in
theorem w_named : about1.methodNamed? x = some theMethod := by decide +kernel
set_option maxRecDepth 65536 in
theorem w_hears : about1.hears theMethod below0 = true := by decide +kernel
set_option maxRecDepth 65536 in
theorem w_ripe : about1.ripe theMethod args0 below0 = true := by decide +kernel
theorem w_running : about1.status = .running := rfl
set_option maxRecDepth 65536 in
theorem w_room : about1.hasRoom e0.platform room_1 = true :=
  launch0.hasRoom_least _ room_1 (by decide +kernel) (by decide +kernel) (by decide +kernel) (by decide +kernel) (by decide +kernel) (by decide +kernel)
theorem allAtoms_all (ts : List Jvm.Cond) (a : Array Jvm.Value) (st : Jvm.State) : (allAtoms ts).before a st = ts.all (fun c => c.before a st) := by
  induction ts with
  | nil => rfl
  | cons c t ih =>
    show (Jvm.Cond.and c (allAtoms t)).before a st = _
    rw [Jvm.Cond.before_and, ih, List.all_cons]
def words1 : List Jvm.Cond := Jvm.Cond.code x code maxLocals ret :: tables_1
/-- a 'code' word, met by the world's own term for the bytes: nothing is compared byte by byte -/
theorem code_word {y : MethodName} {bytes : ByteArray} {mx : Nat} {rt : Option FieldType} {a : Array Value} {s : State} {m : MethodId} {meth : Method} {c : Code} (h1 : s.methodNamed? y = some m) (h2 : s.vm.method? m = some meth) (h3 : meth.code = some c) (h4 : c.code = bytes)
    (h5 : (c.maxLocals == mx && c.exceptionTable.isEmpty && decide (c.maxStack ≤ mostOperands) && decide (meth.sig.returnType = rt) && !meth.locks && decide (parseMethodDescriptor y.desc = some meth.sig)) = true) : (Jvm.Cond.code y bytes mx rt).before a s = true := by
  simp only [Bool.and_eq_true, beq_iff_eq, Bool.not_eq_true', decide_eq_true_eq] at h5
  obtain ⟨⟨⟨⟨⟨g1, g2⟩, g3⟩, g4⟩, g5⟩, g6⟩ := h5
  simp [Cond.before, Cond.holds, Cond.value, h1, h2, h3, h4, g1, g2, g3, g4, g5, g6]
def isCode : Jvm.Cond → Bool
  | .code _ _ _ _ => true
  | _ => false
theorem all_split {L : List Jvm.Cond} {P : Jvm.Cond → Bool} (h1 : L.all (fun c => isCode c || P c) = true) (h2 : ∀ c ∈ L.filter isCode, P c = true) : L.all P = true := by
  refine List.all_eq_true.mpr fun c hc => ?_
  have h := List.all_eq_true.mp h1 c hc
  rcases Bool.eq_false_or_eq_true (isCode c) with hi | hi
  · exact h2 c (List.mem_filter.mpr ⟨hc, hi⟩)
  · simpa [hi] using h
set_option maxRecDepth 65536 in
theorem w_c0 : (Jvm.Cond.code x code maxLocals ret).before args0 about1 = true := code_word (m := ⟨1, 1⟩) (meth := k1m1) (c := k1c1) (by decide +kernel) rfl rfl rfl (by decide +kernel)
set_option maxRecDepth 65536 in
theorem w_c1 : (Jvm.Cond.code ({ cls := "com/example/chronotag/chronotag/codec/FloatFormat", name := "narrowNaN", desc := "(J)J" } : Jvm.MethodName) prog_11_method_10_code (9 : Nat) (Option.some Jvm.ClassFile.FieldType.long)).before args0 about1 = true := code_word (m := ⟨6, 0⟩) (meth := k6m0) (c := k6c0) (by decide +kernel) rfl rfl rfl (by decide +kernel)
def codes1 : List Jvm.Cond := [Jvm.Cond.code x code maxLocals ret, Jvm.Cond.code ({ cls := "com/example/chronotag/chronotag/codec/FloatFormat", name := "narrowNaN", desc := "(J)J" } : Jvm.MethodName) prog_11_method_10_code (9 : Nat) (Option.some Jvm.ClassFile.FieldType.long)]
set_option maxRecDepth 65536 in
theorem codes_eq : words1.filter isCode = codes1 := rfl
theorem w_codes : ∀ c ∈ words1.filter isCode, c.before args0 about1 = true := by
  rw [codes_eq]
  intro c hc
  simp only [codes1, List.mem_cons, List.not_mem_nil, or_false] at hc
  rcases hc with rfl | rfl
  · exact w_c0
  · exact w_c1
set_option maxRecDepth 65536 in
theorem w_t1 : (words1.take 24).all (fun c => isCode c || c.before args0 about1) = true := by decide +kernel
set_option maxRecDepth 65536 in
theorem w_t2 : (words1.drop 24).all (fun c => isCode c || c.before args0 about1) = true := by decide +kernel
theorem w_tables : (allAtoms (Jvm.Cond.code x code maxLocals ret :: tables_1)).before args0 about1 = true := by
  rw [allAtoms_all]
  show words1.all (fun c => c.before args0 about1) = true
  refine all_split ?_ w_codes
  rw [← List.take_append_drop 24 words1, List.all_append, w_t1, w_t2]
  rfl
set_option maxRecDepth 65536 in
theorem w_case : (Jvm.Cond.and given_1 narrow_1).before args0 about1 = true := by decide +kernel
theorem w_applies : (headSpec (Jvm.Cond.code x code maxLocals ret :: tables_1) room_1).applies x e0.platform about1 = true :=
  (Spec.applies_iff w_frames).mpr ⟨w_running, w_runnable, w_alone, w_named, w_hears, w_ripe, w_room, w_tables⟩
theorem atStart : AtStart classFile x code maxLocals ret World_1 tables_1 room_1 Calls_1 rest_1 Pre_1 launch0 p0 e0 about1 theMethod args0 below0 :=
  ⟨lists_1, trivial, launch0.admits_env _ _ _, launch0.least_env, fairChoices_fair.cas, fairChoices_fair.clock, w_frames, w_args, w_heap, w_applies, trivial, trivial, w_case⟩
end start1
theorem witness_1 : WitnessClaimed_1 := ⟨start1.p0, start1.e0, start1.about1, start1.theMethod, start1.args0, start1.below0, start1.atStart⟩
end Jvm.Pilot.@@N@@
