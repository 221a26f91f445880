import JvmDerived
import JvmDerived.Pilot.@@N@@Statement
import JvmDerived.Pilot.@@N@@Code
set_option linter.unusedVariables false
set_option linter.unusedSimpArgs false
namespace Jvm.RoadKit
open Sem ClassFile Op Lib Jvm.Stand Jvm.Free Jvm.LawKit
section New
variable {p : Program} {l : Launch} {e : Env} {R : Room} {s : State} {m : MethodId} {args : Array Value} {below : List Frame} {meth : Method} {c : Code} {T : State} {locs : List Loc} {cells slots : Nat}
theorem retI (X : Stand p l e R s m args below meth c T locs cells slots) (hx : p.tables.exec = Jvm.exec) {pc : Nat} {Ls : Array Slot} {z : Int32} {rest : List Value} (hret : meth.sig.returnType = some .int) (hd : decode c.code pc = .ok (.ireturn, 1)) {fs : List Frame}
    (hl : ∀ (f : JFrame) (acts : List Action), f.method = m → f.locked = none → f.entered = [] → (doReturn e (T.setTop f) acts (some (.int z))).1 = T.setFrames fs) : Steps p.tables e below (T.setTop (mkF m pc Ls (.int z :: rest))) (T.setFrames fs) := by
  have hm' : T.vm.method? m = some meth := X.method'
  have hn : narrow .int (.int z) = .int z := rfl
  show Steps p.tables e below (T.setTop { method := m, pc := pc, locals := Ls, stack := _ :: rest, locked := none }) _
  jvm_step X.here [X.here.top, hx, hd, hm', hret, hn]
  first | (intro acts; rw [hl _ acts rfl rfl rfl]) | rw [hl _ _ rfl rfl rfl]
  exact Steps.refl _
end New
end Jvm.RoadKit
namespace Jvm.Pilot.@@N@@
open Jvm Jvm.ClassFile Sem Op Lib Jvm.Free Jvm.Stand Jvm.LawKit Jvm.RoadKit Bundle Jvm.Pilot.@@N@@.Jvm.D
theorem own_loc {p : Program} {l : Launch} {e : Env} {R : Room} {s : State} {m : MethodId} {args : Array Value} {below : List Frame} {meth : Method} {c : Code} {T : State} {locs : List Loc} {cells slots n0 : Nat} (X : Stand p l e R s m args below meth c T locs cells slots) (N : Fr n0 locs) : ∃ L, Stand p l e R s m args below meth c T L cells slots ∧ Fr n0 L := ⟨_, X, N⟩
/-! an array of sixteen bytes by what its places hold -/
def own_BA (Z : State) (h : Heap) (b : Addr) (f : Nat → Int32) : Prop := ∃ c : Cell, Arr Z h b c .byte ∧ c.slots.size = 16 ∧ ∀ j, j < 16 → c.slots[j]? = some (.int (f j))
def own_upd (f : Nat → Int32) (i : Nat) (y : Int32) : Nat → Int32 := fun j => if j = i then y else f j
theorem own_upd_same (f : Nat → Int32) (i : Nat) (y : Int32) : own_upd f i y i = y := if_pos rfl
theorem own_upd_ne (f : Nat → Int32) {i j : Nat} (y : Int32) (h : j ≠ i) : own_upd f i y j = f j := if_neg h
theorem own_new {Z : State} {h : Heap} {b : Addr} {k : ClassId} (A : Arr Z h b (newA k .byte (16 : Int32)) .byte) : own_BA Z h b (fun _ => 0) := ⟨_, A, rfl, fun j hj => by
  have e : (newA k .byte (16 : Int32)).slots = Array.replicate 16 (.int 0) := rfl
  rw [e]; simp [hj]⟩
theorem own_wr {Z : State} {h h' : Heap} {b : Addr} {f : Nat → Int32} {c : Cell} {i : Nat} {y : Int32} (A : Arr Z h b c .byte) (S : c.slots.size = 16) (H : ∀ j, j < 16 → c.slots[j]? = some (.int (f j))) (W : Wr h h' b i (.int y)) : own_BA Z h' b (own_upd f i y) := by
  refine ⟨_, A.same W, by rw [sz_set]; exact S, fun j hj => ?_⟩
  by_cases q : j = i
  · subst q; rw [own_upd_same]; simp [Cell.setSlot, S, hj]
  · rw [own_upd_ne f y q]
    show (c.slots.setIfInBounds i _)[j]? = _
    rw [Array.getElem?_setIfInBounds_ne (Ne.symm q)]; exact H j hj
theorem own_at (x : Int32) : 0 ≤ (x &&& (7 : Int32)).toInt ∧ (x &&& (7 : Int32)).toInt ≤ 7 := c_and x 7 (by decide)
theorem own_n (x : Int32) : 0 ≤ ((x &&& (2147483647 : Int32)) % (9 : Int32)).toInt ∧ ((x &&& (2147483647 : Int32)) % (9 : Int32)).toInt ≤ 8 := by
  have a := c_and x 2147483647 (by decide)
  have b := (c_irem (x &&& (2147483647 : Int32)) 9 9 (by decide)).1 a.1
  rw [b]; omega
theorem own_idx {a i : Int32} {k : Nat} (ha : 0 ≤ a.toInt ∧ a.toInt ≤ 7) (hi : i.toInt = k) (hk : k ≤ 7) : (a + i).toNatClampNeg = a.toNatClampNeg + k ∧ ¬ (a + i) < (0 : Int32) ∧ a.toNatClampNeg + k < 16 := by
  have q := c_iadd a i
  have b1 := Int32.toInt_lt (a + i); have b2 := Int32.le_toInt (a + i)
  simp only [Int32.lt_iff_toInt_lt, Int32.toNatClampNeg, Int32.reduceToInt]
  omega
theorem own_dec {i : Int32} {k : Nat} (hi : i.toInt = k) : (i + (-1 : Int32)).toInt = (k : Int) - 1 := by
  have q := c_iadd i (-1)
  have m1 : (-1 : Int32).toInt = -1 := rfl
  rw [m1] at q
  have b1 := Int32.toInt_lt (i + (-1 : Int32)); have b2 := Int32.le_toInt (i + (-1 : Int32)); have b3 := Int32.toInt_lt i
  omega
theorem own_first {n : Int32} (hn : 0 ≤ n.toInt ∧ n.toInt ≤ 8) : (n - (1 : Int32)).toInt = (n.toNatClampNeg : Int) - 1 ∧ n.toNatClampNeg ≤ 8 := by
  have q := c_isub n 1
  have b1 := Int32.toInt_lt (n - 1); have b2 := Int32.le_toInt (n - 1)
  simp only [Int32.toNatClampNeg, Int32.reduceToInt] at *
  omega
theorem own_inb {c : Cell} {j : Int32} {x : Nat} (x1 : j.toNatClampNeg = x) (x2 : ¬ j < (0 : Int32)) (x3 : x < 16) (S : c.slots.size = 16) : ¬ (j < 0 ∨ c.slots.size ≤ j.toNatClampNeg) := by
  rintro (q | q)
  · exact x2 q
  · rw [x1, S] at q; omega
theorem own_inb0 {c : Cell} {a : Int32} (ha : 0 ≤ a.toInt ∧ a.toInt ≤ 7) (S : c.slots.size = 16) : ¬ (a < 0 ∨ c.slots.size ≤ a.toNatClampNeg) := by
  rw [S]; simp only [Int32.lt_iff_toInt_lt, Int32.toNatClampNeg, Int32.reduceToInt]; omega
/-! what the loop computes -/
def own_one (r : Int64) (x : Int32) : Int64 := ((r <<< ((8 : Int32) &&& 0x3f).toInt64) ||| ((x &&& (255 : Int32)).toInt64))
def own_acc (f : Nat → Int32) (a : Nat) : Nat → Int64 → Int64
  | 0, r => r
  | k + 1, r => own_acc f a k (own_one r (f (a + k)))
theorem own_one_val (r : Int64) (x : Int32) : ((own_one r x).toInt - (r.toInt * 256 + x.toInt % 256)) % 18446744073709551616 = 0 := by
  have a := c_lshl r 8 8 (by decide)
  have b := c_mask x 255 8 (by decide) (by decide)
  have d := c_i2l (x &&& (255 : Int32))
  have o := c_orL (r <<< ((8 : Int32) &&& 0x3f).toInt64) ((x &&& (255 : Int32)).toInt64) 8 (by decide) 256 (by decide) (by omega) (by omega) (by omega)
  have e : own_one r x = ((r <<< ((8 : Int32) &&& 0x3f).toInt64) ||| ((x &&& (255 : Int32)).toInt64)) := rfl
  rw [e]; omega
theorem own_one_exact (r : Int64) (x : Int32) (h0 : 0 ≤ r.toInt) (h1 : r.toInt < 281474976710656) : (own_one r x).toInt = r.toInt * 256 + x.toInt % 256 := by
  have a := own_one_val r x
  have b1 := Int64.toInt_lt (own_one r x); have b2 := Int64.le_toInt (own_one r x)
  omega
theorem own_byte0 (v : Int64) (U : Int) (hU : U = v.toInt % 18446744073709551616) : (nar .byte (((v.toInt32)).toInt8.toInt32)).toInt % 256 = U % 256 := by
  have a1 := (c_i2b ((v.toInt32).toInt8.toInt32)).1
  have a2 := (c_i2b (v.toInt32)).1
  have a3 := c_l2i v
  have e : (nar .byte (((v.toInt32)).toInt8.toInt32)) = ((v.toInt32).toInt8.toInt32).toInt8.toInt32 := rfl
  rw [e]
  omega
theorem own_d0 (U : Int) : U / 256 = (U) / 256 := by omega
theorem own_nx0 (r : Int64) (y : Int32) (q q' : Int) (hq : q' = q / 256) (hr : r.toInt = q' % 1) (hy : y.toInt % 256 = q % 256) : (own_one r y).toInt = q % 256 := by
  have a := own_one_exact r y (by omega) (by omega)
  omega
theorem own_byte1 (v : Int64) (U : Int) (hU : U = v.toInt % 18446744073709551616) : (nar .byte (((((v.toUInt64 >>> ((8 : Int32) &&& 0x3f).toInt64.toUInt64).toInt64).toInt32)).toInt8.toInt32)).toInt % 256 = U / 256 % 256 := by
  have a1 := (c_i2b ((((v.toUInt64 >>> ((8 : Int32) &&& 0x3f).toInt64.toUInt64).toInt64).toInt32).toInt8.toInt32)).1
  have a2 := (c_i2b (((v.toUInt64 >>> ((8 : Int32) &&& 0x3f).toInt64.toUInt64).toInt64).toInt32)).1
  have a3 := c_l2i ((v.toUInt64 >>> ((8 : Int32) &&& 0x3f).toInt64.toUInt64).toInt64)
  have a4 := c_lushr v 8 8 (by decide) (by decide)
  have e : (nar .byte (((((v.toUInt64 >>> ((8 : Int32) &&& 0x3f).toInt64.toUInt64).toInt64).toInt32)).toInt8.toInt32)) = ((((v.toUInt64 >>> ((8 : Int32) &&& 0x3f).toInt64.toUInt64).toInt64).toInt32).toInt8.toInt32).toInt8.toInt32 := rfl
  rw [e]
  omega
theorem own_d1 (U : Int) : U / 65536 = (U / 256) / 256 := by omega
theorem own_nx1 (r : Int64) (y : Int32) (q q' : Int) (hq : q' = q / 256) (hr : r.toInt = q' % 256) (hy : y.toInt % 256 = q % 256) : (own_one r y).toInt = q % 65536 := by
  have a := own_one_exact r y (by omega) (by omega)
  omega
theorem own_byte2 (v : Int64) (U : Int) (hU : U = v.toInt % 18446744073709551616) : (nar .byte (((((v.toUInt64 >>> ((16 : Int32) &&& 0x3f).toInt64.toUInt64).toInt64).toInt32)).toInt8.toInt32)).toInt % 256 = U / 65536 % 256 := by
  have a1 := (c_i2b ((((v.toUInt64 >>> ((16 : Int32) &&& 0x3f).toInt64.toUInt64).toInt64).toInt32).toInt8.toInt32)).1
  have a2 := (c_i2b (((v.toUInt64 >>> ((16 : Int32) &&& 0x3f).toInt64.toUInt64).toInt64).toInt32)).1
  have a3 := c_l2i ((v.toUInt64 >>> ((16 : Int32) &&& 0x3f).toInt64.toUInt64).toInt64)
  have a4 := c_lushr v 16 16 (by decide) (by decide)
  have e : (nar .byte (((((v.toUInt64 >>> ((16 : Int32) &&& 0x3f).toInt64.toUInt64).toInt64).toInt32)).toInt8.toInt32)) = ((((v.toUInt64 >>> ((16 : Int32) &&& 0x3f).toInt64.toUInt64).toInt64).toInt32).toInt8.toInt32).toInt8.toInt32 := rfl
  rw [e]
  omega
theorem own_d2 (U : Int) : U / 16777216 = (U / 65536) / 256 := by omega
theorem own_nx2 (r : Int64) (y : Int32) (q q' : Int) (hq : q' = q / 256) (hr : r.toInt = q' % 65536) (hy : y.toInt % 256 = q % 256) : (own_one r y).toInt = q % 16777216 := by
  have a := own_one_exact r y (by omega) (by omega)
  omega
theorem own_byte3 (v : Int64) (U : Int) (hU : U = v.toInt % 18446744073709551616) : (nar .byte (((((v.toUInt64 >>> ((24 : Int32) &&& 0x3f).toInt64.toUInt64).toInt64).toInt32)).toInt8.toInt32)).toInt % 256 = U / 16777216 % 256 := by
  have a1 := (c_i2b ((((v.toUInt64 >>> ((24 : Int32) &&& 0x3f).toInt64.toUInt64).toInt64).toInt32).toInt8.toInt32)).1
  have a2 := (c_i2b (((v.toUInt64 >>> ((24 : Int32) &&& 0x3f).toInt64.toUInt64).toInt64).toInt32)).1
  have a3 := c_l2i ((v.toUInt64 >>> ((24 : Int32) &&& 0x3f).toInt64.toUInt64).toInt64)
  have a4 := c_lushr v 24 24 (by decide) (by decide)
  have e : (nar .byte (((((v.toUInt64 >>> ((24 : Int32) &&& 0x3f).toInt64.toUInt64).toInt64).toInt32)).toInt8.toInt32)) = ((((v.toUInt64 >>> ((24 : Int32) &&& 0x3f).toInt64.toUInt64).toInt64).toInt32).toInt8.toInt32).toInt8.toInt32 := rfl
  rw [e]
  omega
theorem own_d3 (U : Int) : U / 4294967296 = (U / 16777216) / 256 := by omega
theorem own_nx3 (r : Int64) (y : Int32) (q q' : Int) (hq : q' = q / 256) (hr : r.toInt = q' % 16777216) (hy : y.toInt % 256 = q % 256) : (own_one r y).toInt = q % 4294967296 := by
  have a := own_one_exact r y (by omega) (by omega)
  omega
theorem own_byte4 (v : Int64) (U : Int) (hU : U = v.toInt % 18446744073709551616) : (nar .byte (((((v.toUInt64 >>> ((32 : Int32) &&& 0x3f).toInt64.toUInt64).toInt64).toInt32)).toInt8.toInt32)).toInt % 256 = U / 4294967296 % 256 := by
  have a1 := (c_i2b ((((v.toUInt64 >>> ((32 : Int32) &&& 0x3f).toInt64.toUInt64).toInt64).toInt32).toInt8.toInt32)).1
  have a2 := (c_i2b (((v.toUInt64 >>> ((32 : Int32) &&& 0x3f).toInt64.toUInt64).toInt64).toInt32)).1
  have a3 := c_l2i ((v.toUInt64 >>> ((32 : Int32) &&& 0x3f).toInt64.toUInt64).toInt64)
  have a4 := c_lushr v 32 32 (by decide) (by decide)
  have e : (nar .byte (((((v.toUInt64 >>> ((32 : Int32) &&& 0x3f).toInt64.toUInt64).toInt64).toInt32)).toInt8.toInt32)) = ((((v.toUInt64 >>> ((32 : Int32) &&& 0x3f).toInt64.toUInt64).toInt64).toInt32).toInt8.toInt32).toInt8.toInt32 := rfl
  rw [e]
  omega
theorem own_d4 (U : Int) : U / 1099511627776 = (U / 4294967296) / 256 := by omega
theorem own_nx4 (r : Int64) (y : Int32) (q q' : Int) (hq : q' = q / 256) (hr : r.toInt = q' % 4294967296) (hy : y.toInt % 256 = q % 256) : (own_one r y).toInt = q % 1099511627776 := by
  have a := own_one_exact r y (by omega) (by omega)
  omega
theorem own_byte5 (v : Int64) (U : Int) (hU : U = v.toInt % 18446744073709551616) : (nar .byte (((((v.toUInt64 >>> ((40 : Int32) &&& 0x3f).toInt64.toUInt64).toInt64).toInt32)).toInt8.toInt32)).toInt % 256 = U / 1099511627776 % 256 := by
  have a1 := (c_i2b ((((v.toUInt64 >>> ((40 : Int32) &&& 0x3f).toInt64.toUInt64).toInt64).toInt32).toInt8.toInt32)).1
  have a2 := (c_i2b (((v.toUInt64 >>> ((40 : Int32) &&& 0x3f).toInt64.toUInt64).toInt64).toInt32)).1
  have a3 := c_l2i ((v.toUInt64 >>> ((40 : Int32) &&& 0x3f).toInt64.toUInt64).toInt64)
  have a4 := c_lushr v 40 40 (by decide) (by decide)
  have e : (nar .byte (((((v.toUInt64 >>> ((40 : Int32) &&& 0x3f).toInt64.toUInt64).toInt64).toInt32)).toInt8.toInt32)) = ((((v.toUInt64 >>> ((40 : Int32) &&& 0x3f).toInt64.toUInt64).toInt64).toInt32).toInt8.toInt32).toInt8.toInt32 := rfl
  rw [e]
  omega
theorem own_d5 (U : Int) : U / 281474976710656 = (U / 1099511627776) / 256 := by omega
theorem own_nx5 (r : Int64) (y : Int32) (q q' : Int) (hq : q' = q / 256) (hr : r.toInt = q' % 1099511627776) (hy : y.toInt % 256 = q % 256) : (own_one r y).toInt = q % 281474976710656 := by
  have a := own_one_exact r y (by omega) (by omega)
  omega
theorem own_byte6 (v : Int64) (U : Int) (hU : U = v.toInt % 18446744073709551616) : (nar .byte (((((v.toUInt64 >>> ((48 : Int32) &&& 0x3f).toInt64.toUInt64).toInt64).toInt32)).toInt8.toInt32)).toInt % 256 = U / 281474976710656 % 256 := by
  have a1 := (c_i2b ((((v.toUInt64 >>> ((48 : Int32) &&& 0x3f).toInt64.toUInt64).toInt64).toInt32).toInt8.toInt32)).1
  have a2 := (c_i2b (((v.toUInt64 >>> ((48 : Int32) &&& 0x3f).toInt64.toUInt64).toInt64).toInt32)).1
  have a3 := c_l2i ((v.toUInt64 >>> ((48 : Int32) &&& 0x3f).toInt64.toUInt64).toInt64)
  have a4 := c_lushr v 48 48 (by decide) (by decide)
  have e : (nar .byte (((((v.toUInt64 >>> ((48 : Int32) &&& 0x3f).toInt64.toUInt64).toInt64).toInt32)).toInt8.toInt32)) = ((((v.toUInt64 >>> ((48 : Int32) &&& 0x3f).toInt64.toUInt64).toInt64).toInt32).toInt8.toInt32).toInt8.toInt32 := rfl
  rw [e]
  omega
theorem own_d6 (U : Int) : U / 72057594037927936 = (U / 281474976710656) / 256 := by omega
theorem own_nx6 (r : Int64) (y : Int32) (q q' : Int) (hq : q' = q / 256) (hr : r.toInt = q' % 281474976710656) (hy : y.toInt % 256 = q % 256) : (own_one r y).toInt = q % 72057594037927936 := by
  have a := own_one_exact r y (by omega) (by omega)
  omega
theorem own_byte7 (v : Int64) (U : Int) (hU : U = v.toInt % 18446744073709551616) : (nar .byte (((((v.toUInt64 >>> ((56 : Int32) &&& 0x3f).toInt64.toUInt64).toInt64).toInt32)).toInt8.toInt32)).toInt % 256 = U / 72057594037927936 % 256 := by
  have a1 := (c_i2b ((((v.toUInt64 >>> ((56 : Int32) &&& 0x3f).toInt64.toUInt64).toInt64).toInt32).toInt8.toInt32)).1
  have a2 := (c_i2b (((v.toUInt64 >>> ((56 : Int32) &&& 0x3f).toInt64.toUInt64).toInt64).toInt32)).1
  have a3 := c_l2i ((v.toUInt64 >>> ((56 : Int32) &&& 0x3f).toInt64.toUInt64).toInt64)
  have a4 := c_lushr v 56 56 (by decide) (by decide)
  have e : (nar .byte (((((v.toUInt64 >>> ((56 : Int32) &&& 0x3f).toInt64.toUInt64).toInt64).toInt32)).toInt8.toInt32)) = ((((v.toUInt64 >>> ((56 : Int32) &&& 0x3f).toInt64.toUInt64).toInt64).toInt32).toInt8.toInt32).toInt8.toInt32 := rfl
  rw [e]
  omega
theorem own_nx7 (r : Int64) (y : Int32) (q q' : Int) (h0 : 0 ≤ q) (h1 : q < 18446744073709551616) (hq : q' = q / 256) (hr : r.toInt = q' % 72057594037927936) (hy : y.toInt % 256 = q % 256) : ((own_one r y).toInt - q) % 18446744073709551616 = 0 := by
  have a := own_one_val r y
  omega
theorem own_sum0 (v : Int64) (U : Int) (hU : U = v.toInt % 18446744073709551616)  : (0 : Int64) = (v &&& (((1 : Int64) <<< (((8 : Int32) * (0 : Int32)) &&& 0x3f).toInt64) - (1 : Int64))) := by
  have m : (((1 : Int64) <<< (((8 : Int32) * (0 : Int32)) &&& 0x3f).toInt64) - (1 : Int64)) = 0 := by decide
  rw [m, Int64.and_zero]
theorem own_sum1 (v : Int64) (U : Int) (hU : U = v.toInt % 18446744073709551616) (y0 : Int32) (b0 : y0.toInt % 256 = U % 256) : (own_one (0 : Int64) y0) = (v &&& (((1 : Int64) <<< (((8 : Int32) * (1 : Int32)) &&& 0x3f).toInt64) - (1 : Int64))) := by
  have s0 := own_nx0 (0 : Int64) y0 (U) ((U) / 256) rfl (by rw [Int.emod_one]; rfl) b0
  clear b0
  apply Int64.toInt_inj.mp
  generalize (own_one (0 : Int64) y0) = x at *
  have m : (((1 : Int64) <<< (((8 : Int32) * (1 : Int32)) &&& 0x3f).toInt64) - (1 : Int64)) = 255 := by decide
  rw [m]
  have mm := c_maskL v 255 8 (by decide) (by decide)
  rw [mm]
  omega
theorem own_sum2 (v : Int64) (U : Int) (hU : U = v.toInt % 18446744073709551616) (y0 : Int32) (b0 : y0.toInt % 256 = U % 256) (y1 : Int32) (b1 : y1.toInt % 256 = U / 256 % 256) : (own_one (own_one (0 : Int64) y1) y0) = (v &&& (((1 : Int64) <<< (((8 : Int32) * (2 : Int32)) &&& 0x3f).toInt64) - (1 : Int64))) := by
  have s0 := own_nx0 (0 : Int64) y1 (U / 256) ((U / 256) / 256) rfl (by rw [Int.emod_one]; rfl) b1
  have s1 := own_nx1 (own_one (0 : Int64) y1) y0 (U) (U / 256) (own_d0 U) s0 b0
  clear b0 b1 s0
  apply Int64.toInt_inj.mp
  generalize (own_one (own_one (0 : Int64) y1) y0) = x at *
  have m : (((1 : Int64) <<< (((8 : Int32) * (2 : Int32)) &&& 0x3f).toInt64) - (1 : Int64)) = 65535 := by decide
  rw [m]
  have mm := c_maskL v 65535 16 (by decide) (by decide)
  rw [mm]
  omega
theorem own_sum3 (v : Int64) (U : Int) (hU : U = v.toInt % 18446744073709551616) (y0 : Int32) (b0 : y0.toInt % 256 = U % 256) (y1 : Int32) (b1 : y1.toInt % 256 = U / 256 % 256) (y2 : Int32) (b2 : y2.toInt % 256 = U / 65536 % 256) : (own_one (own_one (own_one (0 : Int64) y2) y1) y0) = (v &&& (((1 : Int64) <<< (((8 : Int32) * (3 : Int32)) &&& 0x3f).toInt64) - (1 : Int64))) := by
  have s0 := own_nx0 (0 : Int64) y2 (U / 65536) ((U / 65536) / 256) rfl (by rw [Int.emod_one]; rfl) b2
  have s1 := own_nx1 (own_one (0 : Int64) y2) y1 (U / 256) (U / 65536) (own_d1 U) s0 b1
  have s2 := own_nx2 (own_one (own_one (0 : Int64) y2) y1) y0 (U) (U / 256) (own_d0 U) s1 b0
  clear b0 b1 b2 s0 s1
  apply Int64.toInt_inj.mp
  generalize (own_one (own_one (own_one (0 : Int64) y2) y1) y0) = x at *
  have m : (((1 : Int64) <<< (((8 : Int32) * (3 : Int32)) &&& 0x3f).toInt64) - (1 : Int64)) = 16777215 := by decide
  rw [m]
  have mm := c_maskL v 16777215 24 (by decide) (by decide)
  rw [mm]
  omega
theorem own_sum4 (v : Int64) (U : Int) (hU : U = v.toInt % 18446744073709551616) (y0 : Int32) (b0 : y0.toInt % 256 = U % 256) (y1 : Int32) (b1 : y1.toInt % 256 = U / 256 % 256) (y2 : Int32) (b2 : y2.toInt % 256 = U / 65536 % 256) (y3 : Int32) (b3 : y3.toInt % 256 = U / 16777216 % 256) : (own_one (own_one (own_one (own_one (0 : Int64) y3) y2) y1) y0) = (v &&& (((1 : Int64) <<< (((8 : Int32) * (4 : Int32)) &&& 0x3f).toInt64) - (1 : Int64))) := by
  have s0 := own_nx0 (0 : Int64) y3 (U / 16777216) ((U / 16777216) / 256) rfl (by rw [Int.emod_one]; rfl) b3
  have s1 := own_nx1 (own_one (0 : Int64) y3) y2 (U / 65536) (U / 16777216) (own_d2 U) s0 b2
  have s2 := own_nx2 (own_one (own_one (0 : Int64) y3) y2) y1 (U / 256) (U / 65536) (own_d1 U) s1 b1
  have s3 := own_nx3 (own_one (own_one (own_one (0 : Int64) y3) y2) y1) y0 (U) (U / 256) (own_d0 U) s2 b0
  clear b0 b1 b2 b3 s0 s1 s2
  apply Int64.toInt_inj.mp
  generalize (own_one (own_one (own_one (own_one (0 : Int64) y3) y2) y1) y0) = x at *
  have m : (((1 : Int64) <<< (((8 : Int32) * (4 : Int32)) &&& 0x3f).toInt64) - (1 : Int64)) = 4294967295 := by decide
  rw [m]
  have mm := c_maskL v 4294967295 32 (by decide) (by decide)
  rw [mm]
  omega
theorem own_sum5 (v : Int64) (U : Int) (hU : U = v.toInt % 18446744073709551616) (y0 : Int32) (b0 : y0.toInt % 256 = U % 256) (y1 : Int32) (b1 : y1.toInt % 256 = U / 256 % 256) (y2 : Int32) (b2 : y2.toInt % 256 = U / 65536 % 256) (y3 : Int32) (b3 : y3.toInt % 256 = U / 16777216 % 256) (y4 : Int32) (b4 : y4.toInt % 256 = U / 4294967296 % 256) : (own_one (own_one (own_one (own_one (own_one (0 : Int64) y4) y3) y2) y1) y0) = (v &&& (((1 : Int64) <<< (((8 : Int32) * (5 : Int32)) &&& 0x3f).toInt64) - (1 : Int64))) := by
  have s0 := own_nx0 (0 : Int64) y4 (U / 4294967296) ((U / 4294967296) / 256) rfl (by rw [Int.emod_one]; rfl) b4
  have s1 := own_nx1 (own_one (0 : Int64) y4) y3 (U / 16777216) (U / 4294967296) (own_d3 U) s0 b3
  have s2 := own_nx2 (own_one (own_one (0 : Int64) y4) y3) y2 (U / 65536) (U / 16777216) (own_d2 U) s1 b2
  have s3 := own_nx3 (own_one (own_one (own_one (0 : Int64) y4) y3) y2) y1 (U / 256) (U / 65536) (own_d1 U) s2 b1
  have s4 := own_nx4 (own_one (own_one (own_one (own_one (0 : Int64) y4) y3) y2) y1) y0 (U) (U / 256) (own_d0 U) s3 b0
  clear b0 b1 b2 b3 b4 s0 s1 s2 s3
  apply Int64.toInt_inj.mp
  generalize (own_one (own_one (own_one (own_one (own_one (0 : Int64) y4) y3) y2) y1) y0) = x at *
  have m : (((1 : Int64) <<< (((8 : Int32) * (5 : Int32)) &&& 0x3f).toInt64) - (1 : Int64)) = 1099511627775 := by decide
  rw [m]
  have mm := c_maskL v 1099511627775 40 (by decide) (by decide)
  rw [mm]
  omega
theorem own_sum6 (v : Int64) (U : Int) (hU : U = v.toInt % 18446744073709551616) (y0 : Int32) (b0 : y0.toInt % 256 = U % 256) (y1 : Int32) (b1 : y1.toInt % 256 = U / 256 % 256) (y2 : Int32) (b2 : y2.toInt % 256 = U / 65536 % 256) (y3 : Int32) (b3 : y3.toInt % 256 = U / 16777216 % 256) (y4 : Int32) (b4 : y4.toInt % 256 = U / 4294967296 % 256) (y5 : Int32) (b5 : y5.toInt % 256 = U / 1099511627776 % 256) : (own_one (own_one (own_one (own_one (own_one (own_one (0 : Int64) y5) y4) y3) y2) y1) y0) = (v &&& (((1 : Int64) <<< (((8 : Int32) * (6 : Int32)) &&& 0x3f).toInt64) - (1 : Int64))) := by
  have s0 := own_nx0 (0 : Int64) y5 (U / 1099511627776) ((U / 1099511627776) / 256) rfl (by rw [Int.emod_one]; rfl) b5
  have s1 := own_nx1 (own_one (0 : Int64) y5) y4 (U / 4294967296) (U / 1099511627776) (own_d4 U) s0 b4
  have s2 := own_nx2 (own_one (own_one (0 : Int64) y5) y4) y3 (U / 16777216) (U / 4294967296) (own_d3 U) s1 b3
  have s3 := own_nx3 (own_one (own_one (own_one (0 : Int64) y5) y4) y3) y2 (U / 65536) (U / 16777216) (own_d2 U) s2 b2
  have s4 := own_nx4 (own_one (own_one (own_one (own_one (0 : Int64) y5) y4) y3) y2) y1 (U / 256) (U / 65536) (own_d1 U) s3 b1
  have s5 := own_nx5 (own_one (own_one (own_one (own_one (own_one (0 : Int64) y5) y4) y3) y2) y1) y0 (U) (U / 256) (own_d0 U) s4 b0
  clear b0 b1 b2 b3 b4 b5 s0 s1 s2 s3 s4
  apply Int64.toInt_inj.mp
  generalize (own_one (own_one (own_one (own_one (own_one (own_one (0 : Int64) y5) y4) y3) y2) y1) y0) = x at *
  have m : (((1 : Int64) <<< (((8 : Int32) * (6 : Int32)) &&& 0x3f).toInt64) - (1 : Int64)) = 281474976710655 := by decide
  rw [m]
  have mm := c_maskL v 281474976710655 48 (by decide) (by decide)
  rw [mm]
  omega
theorem own_sum7 (v : Int64) (U : Int) (hU : U = v.toInt % 18446744073709551616) (y0 : Int32) (b0 : y0.toInt % 256 = U % 256) (y1 : Int32) (b1 : y1.toInt % 256 = U / 256 % 256) (y2 : Int32) (b2 : y2.toInt % 256 = U / 65536 % 256) (y3 : Int32) (b3 : y3.toInt % 256 = U / 16777216 % 256) (y4 : Int32) (b4 : y4.toInt % 256 = U / 4294967296 % 256) (y5 : Int32) (b5 : y5.toInt % 256 = U / 1099511627776 % 256) (y6 : Int32) (b6 : y6.toInt % 256 = U / 281474976710656 % 256) : (own_one (own_one (own_one (own_one (own_one (own_one (own_one (0 : Int64) y6) y5) y4) y3) y2) y1) y0) = (v &&& (((1 : Int64) <<< (((8 : Int32) * (7 : Int32)) &&& 0x3f).toInt64) - (1 : Int64))) := by
  have s0 := own_nx0 (0 : Int64) y6 (U / 281474976710656) ((U / 281474976710656) / 256) rfl (by rw [Int.emod_one]; rfl) b6
  have s1 := own_nx1 (own_one (0 : Int64) y6) y5 (U / 1099511627776) (U / 281474976710656) (own_d5 U) s0 b5
  have s2 := own_nx2 (own_one (own_one (0 : Int64) y6) y5) y4 (U / 4294967296) (U / 1099511627776) (own_d4 U) s1 b4
  have s3 := own_nx3 (own_one (own_one (own_one (0 : Int64) y6) y5) y4) y3 (U / 16777216) (U / 4294967296) (own_d3 U) s2 b3
  have s4 := own_nx4 (own_one (own_one (own_one (own_one (0 : Int64) y6) y5) y4) y3) y2 (U / 65536) (U / 16777216) (own_d2 U) s3 b2
  have s5 := own_nx5 (own_one (own_one (own_one (own_one (own_one (0 : Int64) y6) y5) y4) y3) y2) y1 (U / 256) (U / 65536) (own_d1 U) s4 b1
  have s6 := own_nx6 (own_one (own_one (own_one (own_one (own_one (own_one (0 : Int64) y6) y5) y4) y3) y2) y1) y0 (U) (U / 256) (own_d0 U) s5 b0
  clear b0 b1 b2 b3 b4 b5 b6 s0 s1 s2 s3 s4 s5
  apply Int64.toInt_inj.mp
  generalize (own_one (own_one (own_one (own_one (own_one (own_one (own_one (0 : Int64) y6) y5) y4) y3) y2) y1) y0) = x at *
  have m : (((1 : Int64) <<< (((8 : Int32) * (7 : Int32)) &&& 0x3f).toInt64) - (1 : Int64)) = 72057594037927935 := by decide
  rw [m]
  have mm := c_maskL v 72057594037927935 56 (by decide) (by decide)
  rw [mm]
  omega
theorem own_sum8 (v : Int64) (U : Int) (hU : U = v.toInt % 18446744073709551616) (y0 : Int32) (b0 : y0.toInt % 256 = U % 256) (y1 : Int32) (b1 : y1.toInt % 256 = U / 256 % 256) (y2 : Int32) (b2 : y2.toInt % 256 = U / 65536 % 256) (y3 : Int32) (b3 : y3.toInt % 256 = U / 16777216 % 256) (y4 : Int32) (b4 : y4.toInt % 256 = U / 4294967296 % 256) (y5 : Int32) (b5 : y5.toInt % 256 = U / 1099511627776 % 256) (y6 : Int32) (b6 : y6.toInt % 256 = U / 281474976710656 % 256) (y7 : Int32) (b7 : y7.toInt % 256 = U / 72057594037927936 % 256) : (own_one (own_one (own_one (own_one (own_one (own_one (own_one (own_one (0 : Int64) y7) y6) y5) y4) y3) y2) y1) y0) = v := by
  have s0 := own_nx0 (0 : Int64) y7 (U / 72057594037927936) ((U / 72057594037927936) / 256) rfl (by rw [Int.emod_one]; rfl) b7
  have s1 := own_nx1 (own_one (0 : Int64) y7) y6 (U / 281474976710656) (U / 72057594037927936) (own_d6 U) s0 b6
  have s2 := own_nx2 (own_one (own_one (0 : Int64) y7) y6) y5 (U / 1099511627776) (U / 281474976710656) (own_d5 U) s1 b5
  have s3 := own_nx3 (own_one (own_one (own_one (0 : Int64) y7) y6) y5) y4 (U / 4294967296) (U / 1099511627776) (own_d4 U) s2 b4
  have s4 := own_nx4 (own_one (own_one (own_one (own_one (0 : Int64) y7) y6) y5) y4) y3 (U / 16777216) (U / 4294967296) (own_d3 U) s3 b3
  have s5 := own_nx5 (own_one (own_one (own_one (own_one (own_one (0 : Int64) y7) y6) y5) y4) y3) y2 (U / 65536) (U / 16777216) (own_d2 U) s4 b2
  have s6 := own_nx6 (own_one (own_one (own_one (own_one (own_one (own_one (0 : Int64) y7) y6) y5) y4) y3) y2) y1 (U / 256) (U / 65536) (own_d1 U) s5 b1
  have s7 := own_nx7 (own_one (own_one (own_one (own_one (own_one (own_one (own_one (0 : Int64) y7) y6) y5) y4) y3) y2) y1) y0 (U) (U / 256) (by omega) (by omega) (own_d0 U) s6 b0
  clear b0 b1 b2 b3 b4 b5 b6 b7 s0 s1 s2 s3 s4 s5 s6
  apply Int64.toInt_inj.mp
  generalize (own_one (own_one (own_one (own_one (own_one (own_one (own_one (own_one (0 : Int64) y7) y6) y5) y4) y3) y2) y1) y0) = x at *
  have r1 := Int64.toInt_lt v; have r2 := Int64.le_toInt v
  have r3 := Int64.toInt_lt x; have r4 := Int64.le_toInt x
  omega
theorem own_law (v : Int64) (f : Nat → Int32) (a : Nat) (n : Int32) (ex : Int64) (hn : 0 ≤ n.toInt ∧ n.toInt ≤ 8) (h0 : f (a + 0) = (nar .byte (((v.toInt32)).toInt8.toInt32))) (h1 : f (a + 1) = (nar .byte (((((v.toUInt64 >>> ((8 : Int32) &&& 0x3f).toInt64.toUInt64).toInt64).toInt32)).toInt8.toInt32))) (h2 : f (a + 2) = (nar .byte (((((v.toUInt64 >>> ((16 : Int32) &&& 0x3f).toInt64.toUInt64).toInt64).toInt32)).toInt8.toInt32))) (h3 : f (a + 3) = (nar .byte (((((v.toUInt64 >>> ((24 : Int32) &&& 0x3f).toInt64.toUInt64).toInt64).toInt32)).toInt8.toInt32))) (h4 : f (a + 4) = (nar .byte (((((v.toUInt64 >>> ((32 : Int32) &&& 0x3f).toInt64.toUInt64).toInt64).toInt32)).toInt8.toInt32))) (h5 : f (a + 5) = (nar .byte (((((v.toUInt64 >>> ((40 : Int32) &&& 0x3f).toInt64.toUInt64).toInt64).toInt32)).toInt8.toInt32))) (h6 : f (a + 6) = (nar .byte (((((v.toUInt64 >>> ((48 : Int32) &&& 0x3f).toInt64.toUInt64).toInt64).toInt32)).toInt8.toInt32))) (h7 : f (a + 7) = (nar .byte (((((v.toUInt64 >>> ((56 : Int32) &&& 0x3f).toInt64.toUInt64).toInt64).toInt32)).toInt8.toInt32)))
    (he : (ex = v ∧ n = (8 : Int32)) ∨ (ex = (v &&& (((1 : Int64) <<< (((8 : Int32) * n) &&& 0x3f).toInt64) - (1 : Int64))) ∧ ¬ n = (8 : Int32))) : own_acc f a n.toNatClampNeg 0 = ex := by
  obtain ⟨U, hU⟩ : ∃ U, U = v.toInt % 18446744073709551616 := ⟨_, rfl⟩
  have b0 := own_byte0 v U hU
  have b1 := own_byte1 v U hU
  have b2 := own_byte2 v U hU
  have b3 := own_byte3 v U hU
  have b4 := own_byte4 v U hU
  have b5 := own_byte5 v U hU
  have b6 := own_byte6 v U hU
  have b7 := own_byte7 v U hU
  rw [← h0] at b0
  rw [← h1] at b1
  rw [← h2] at b2
  rw [← h3] at b3
  rw [← h4] at b4
  rw [← h5] at b5
  rw [← h6] at b6
  rw [← h7] at b7
  have hc : n = 0 ∨ n = 1 ∨ n = 2 ∨ n = 3 ∨ n = 4 ∨ n = 5 ∨ n = 6 ∨ n = 7 ∨ n = 8 := by
    clear he b0 b1 b2 b3 b4 b5 b6 b7
    simp only [← Int32.toInt_inj, Int32.reduceToInt]; omega
  rcases hc with rfl | rfl | rfl | rfl | rfl | rfl | rfl | rfl | rfl
  · rcases he with ⟨-, he⟩ | ⟨rfl, -⟩
    · exact absurd he (by decide)
    · exact own_sum0 v U hU 
  · rcases he with ⟨-, he⟩ | ⟨rfl, -⟩
    · exact absurd he (by decide)
    · exact own_sum1 v U hU _ b0
  · rcases he with ⟨-, he⟩ | ⟨rfl, -⟩
    · exact absurd he (by decide)
    · exact own_sum2 v U hU _ b0 _ b1
  · rcases he with ⟨-, he⟩ | ⟨rfl, -⟩
    · exact absurd he (by decide)
    · exact own_sum3 v U hU _ b0 _ b1 _ b2
  · rcases he with ⟨-, he⟩ | ⟨rfl, -⟩
    · exact absurd he (by decide)
    · exact own_sum4 v U hU _ b0 _ b1 _ b2 _ b3
  · rcases he with ⟨-, he⟩ | ⟨rfl, -⟩
    · exact absurd he (by decide)
    · exact own_sum5 v U hU _ b0 _ b1 _ b2 _ b3 _ b4
  · rcases he with ⟨-, he⟩ | ⟨rfl, -⟩
    · exact absurd he (by decide)
    · exact own_sum6 v U hU _ b0 _ b1 _ b2 _ b3 _ b4 _ b5
  · rcases he with ⟨-, he⟩ | ⟨rfl, -⟩
    · exact absurd he (by decide)
    · exact own_sum7 v U hU _ b0 _ b1 _ b2 _ b3 _ b4 _ b5 _ b6
  · rcases he with ⟨rfl, -⟩ | ⟨-, he⟩
    · exact own_sum8 ex U hU _ b0 _ b1 _ b2 _ b3 _ b4 _ b5 _ b6 _ b7
    · exact absurd rfl he
theorem own_F0 (f : Nat → Int32) (A : Nat) (y0 y1 y2 y3 y4 y5 y6 y7 : Int32) : (own_upd (own_upd (own_upd (own_upd (own_upd (own_upd (own_upd (own_upd f (A) y0) (A + 1) y1) (A + 2) y2) (A + 3) y3) (A + 4) y4) (A + 5) y5) (A + 6) y6) (A + 7) y7) (A + 0) = y0 := by
  rw [own_upd_ne _ _ (by omega)]
  rw [own_upd_ne _ _ (by omega)]
  rw [own_upd_ne _ _ (by omega)]
  rw [own_upd_ne _ _ (by omega)]
  rw [own_upd_ne _ _ (by omega)]
  rw [own_upd_ne _ _ (by omega)]
  rw [own_upd_ne _ _ (by omega)]
  exact own_upd_same _ _ _
theorem own_F1 (f : Nat → Int32) (A : Nat) (y0 y1 y2 y3 y4 y5 y6 y7 : Int32) : (own_upd (own_upd (own_upd (own_upd (own_upd (own_upd (own_upd (own_upd f (A) y0) (A + 1) y1) (A + 2) y2) (A + 3) y3) (A + 4) y4) (A + 5) y5) (A + 6) y6) (A + 7) y7) (A + 1) = y1 := by
  rw [own_upd_ne _ _ (by omega)]
  rw [own_upd_ne _ _ (by omega)]
  rw [own_upd_ne _ _ (by omega)]
  rw [own_upd_ne _ _ (by omega)]
  rw [own_upd_ne _ _ (by omega)]
  rw [own_upd_ne _ _ (by omega)]
  exact own_upd_same _ _ _
theorem own_F2 (f : Nat → Int32) (A : Nat) (y0 y1 y2 y3 y4 y5 y6 y7 : Int32) : (own_upd (own_upd (own_upd (own_upd (own_upd (own_upd (own_upd (own_upd f (A) y0) (A + 1) y1) (A + 2) y2) (A + 3) y3) (A + 4) y4) (A + 5) y5) (A + 6) y6) (A + 7) y7) (A + 2) = y2 := by
  rw [own_upd_ne _ _ (by omega)]
  rw [own_upd_ne _ _ (by omega)]
  rw [own_upd_ne _ _ (by omega)]
  rw [own_upd_ne _ _ (by omega)]
  rw [own_upd_ne _ _ (by omega)]
  exact own_upd_same _ _ _
theorem own_F3 (f : Nat → Int32) (A : Nat) (y0 y1 y2 y3 y4 y5 y6 y7 : Int32) : (own_upd (own_upd (own_upd (own_upd (own_upd (own_upd (own_upd (own_upd f (A) y0) (A + 1) y1) (A + 2) y2) (A + 3) y3) (A + 4) y4) (A + 5) y5) (A + 6) y6) (A + 7) y7) (A + 3) = y3 := by
  rw [own_upd_ne _ _ (by omega)]
  rw [own_upd_ne _ _ (by omega)]
  rw [own_upd_ne _ _ (by omega)]
  rw [own_upd_ne _ _ (by omega)]
  exact own_upd_same _ _ _
theorem own_F4 (f : Nat → Int32) (A : Nat) (y0 y1 y2 y3 y4 y5 y6 y7 : Int32) : (own_upd (own_upd (own_upd (own_upd (own_upd (own_upd (own_upd (own_upd f (A) y0) (A + 1) y1) (A + 2) y2) (A + 3) y3) (A + 4) y4) (A + 5) y5) (A + 6) y6) (A + 7) y7) (A + 4) = y4 := by
  rw [own_upd_ne _ _ (by omega)]
  rw [own_upd_ne _ _ (by omega)]
  rw [own_upd_ne _ _ (by omega)]
  exact own_upd_same _ _ _
theorem own_F5 (f : Nat → Int32) (A : Nat) (y0 y1 y2 y3 y4 y5 y6 y7 : Int32) : (own_upd (own_upd (own_upd (own_upd (own_upd (own_upd (own_upd (own_upd f (A) y0) (A + 1) y1) (A + 2) y2) (A + 3) y3) (A + 4) y4) (A + 5) y5) (A + 6) y6) (A + 7) y7) (A + 5) = y5 := by
  rw [own_upd_ne _ _ (by omega)]
  rw [own_upd_ne _ _ (by omega)]
  exact own_upd_same _ _ _
theorem own_F6 (f : Nat → Int32) (A : Nat) (y0 y1 y2 y3 y4 y5 y6 y7 : Int32) : (own_upd (own_upd (own_upd (own_upd (own_upd (own_upd (own_upd (own_upd f (A) y0) (A + 1) y1) (A + 2) y2) (A + 3) y3) (A + 4) y4) (A + 5) y5) (A + 6) y6) (A + 7) y7) (A + 6) = y6 := by
  rw [own_upd_ne _ _ (by omega)]
  exact own_upd_same _ _ _
theorem own_F7 (f : Nat → Int32) (A : Nat) (y0 y1 y2 y3 y4 y5 y6 y7 : Int32) : (own_upd (own_upd (own_upd (own_upd (own_upd (own_upd (own_upd (own_upd f (A) y0) (A + 1) y1) (A + 2) y2) (A + 3) y3) (A + 4) y4) (A + 5) y5) (A + 6) y6) (A + 7) y7) (A + 7) = y7 := by
  exact own_upd_same _ _ _
def Qu (Z : State) (a1 : Addr) (p2 p3 : Int32) (f : Nat → Int32) (h0 : Heap) (n0 : Nat) (v : Option Value) (h : Heap) (L : List Loc) : Prop := v = some (.long (own_acc f p2.toNatClampNeg p3.toNatClampNeg 0)) ∧ Fr n0 L ∧ h = h0
theorem d1_0 : decode prog_23_method_2_code 0 = .ok (.lconst 0, 1) := by decide +kernel
theorem d1_1 : decode prog_23_method_2_code 1 = .ok (.lstore_n 3, 1) := by decide +kernel
theorem d1_2 : decode prog_23_method_2_code 2 = .ok (.iload_n 2, 1) := by decide +kernel
theorem d1_3 : decode prog_23_method_2_code 3 = .ok (.iconst 1, 1) := by decide +kernel
theorem d1_4 : decode prog_23_method_2_code 4 = .ok (.isub, 1) := by decide +kernel
theorem d1_5 : decode prog_23_method_2_code 5 = .ok (.istore 5, 2) := by decide +kernel
theorem d1_7 : decode prog_23_method_2_code 7 = .ok (.iload 5, 2) := by decide +kernel
theorem d1_9 : decode prog_23_method_2_code 9 = .ok (.ifCond .lt 26, 3) := by decide +kernel
theorem d1_12 : decode prog_23_method_2_code 12 = .ok (.lload_n 3, 1) := by decide +kernel
theorem d1_13 : decode prog_23_method_2_code 13 = .ok (.bipush 8, 2) := by decide +kernel
theorem d1_15 : decode prog_23_method_2_code 15 = .ok (.lshl, 1) := by decide +kernel
theorem d1_16 : decode prog_23_method_2_code 16 = .ok (.aload_n 0, 1) := by decide +kernel
theorem d1_17 : decode prog_23_method_2_code 17 = .ok (.iload_n 1, 1) := by decide +kernel
theorem d1_18 : decode prog_23_method_2_code 18 = .ok (.iload 5, 2) := by decide +kernel
theorem d1_20 : decode prog_23_method_2_code 20 = .ok (.iadd, 1) := by decide +kernel
theorem d1_21 : decode prog_23_method_2_code 21 = .ok (.baload, 1) := by decide +kernel
theorem d1_22 : decode prog_23_method_2_code 22 = .ok (.sipush 255, 3) := by decide +kernel
theorem d1_25 : decode prog_23_method_2_code 25 = .ok (.iand, 1) := by decide +kernel
theorem d1_26 : decode prog_23_method_2_code 26 = .ok (.i2l, 1) := by decide +kernel
theorem d1_27 : decode prog_23_method_2_code 27 = .ok (.lor, 1) := by decide +kernel
theorem d1_28 : decode prog_23_method_2_code 28 = .ok (.lstore_n 3, 1) := by decide +kernel
theorem d1_29 : decode prog_23_method_2_code 29 = .ok (.iinc 5 (-1), 3) := by decide +kernel
theorem d1_32 : decode prog_23_method_2_code 32 = .ok (.goto (-25), 3) := by decide +kernel
theorem d1_35 : decode prog_23_method_2_code 35 = .ok (.lload_n 3, 1) := by decide +kernel
theorem d1_36 : decode prog_23_method_2_code 36 = .ok (.lreturn, 1) := by decide +kernel
theorem ef_1 (m : MethodId) (a1 : Addr) (p2 : Int32) (p3 : Int32) : entryFrame m #[(.ref a1), (.int p2), (.int p3)] 6 = mkF m 0 #[.val (.ref a1), .val (.int p2), .val (.int p3), .unset, .unset, .unset] [] := by first | (simp [entryFrame, mkF, argsToLocals, Value.category]; done) | rfl
theorem pn_0 : plainName "com/example/strict_wire/strictwire/codec/LittleEndian" = true := by first | (simp [plainName, overriddenIn]; done) | decide +kernel
set_option maxRecDepth 65536 in
set_option maxHeartbeats 40000000 in
theorem rmU (l : Launch) (Z : State) (a0 : Array Value) (hw : ∀ d ∈ tables_1, d.before a0 Z = true) (ws : List Jvm.Cond) (a1 : Addr) (p2 : Int32) (p3 : Int32) (f : Nat → Int32) (h0 : Heap) (n0 : Nat) (Z0 : n0 ≤ h0.size) (V : own_BA Z h0 a1 f) (ha : 0 ≤ p2.toInt ∧ p2.toInt ≤ 7) (hn : 0 ≤ p3.toInt ∧ p3.toInt ≤ 8) :
    MetFree l (⟨"com/example/strict_wire/strictwire/codec/LittleEndian", "unsigned", "([BII)J"⟩ : MethodName) (head1 (Jvm.Cond.code (⟨"com/example/strict_wire/strictwire/codec/LittleEndian", "unsigned", "([BII)J"⟩ : MethodName) prog_23_method_2_code 6 (some .long) :: ws) ({ frames := 0, cells := 0, slots := 0, locals := 0 } : Room)) (fun a U => a = #[(.ref a1), (.int p2), (.int p3)] ∧ Z.Warmed39 U.vm ∧ U.heap = h0) (fun _ _ _ _ _ => True) (fun _ U o U' => ∃ v L, o = .returned v ∧ Qu Z a1 p2 p3 f h0 n0 v U'.heap L ∧ FrameEnd U o U' L ({ frames := 0, cells := 0, slots := 0, locals := 0 } : Room).cells ({ frames := 0, cells := 0, slots := 0, locals := 0 } : Room).slots) := by
  refine MetFree.of_bodySF (plainFor_of_name pn_0) hisR ?_
  intro p e s m args below meth c s₁ Bd hml0 hP hK
  obtain ⟨rfl, hZ, hh⟩ := hP
  have hx := Bd.exec
  have hby := Bd.bytes
  have hml : c.maxLocals = 6 := hml0
  have hown : s.vm.findClass "com/example/strict_wire/strictwire/codec/LittleEndian" = some m.cls := findClass_of_methodNamed Bd.named
  have hnm := (name_of_methodNamed Bd.named Bd.method).1
  have X0 : Stand p l e ({ frames := 0, cells := 0, slots := 0, locals := 0 } : Room) s m #[(.ref a1), (.int p2), (.int p3)] below meth c s₁ [] 0 0 := Stand.of_body Bd
  have e0 : s₁.heap = h0 := by rw [← hh, Bd.state]; rfl
  have N0 := Fr.nil n0
  have pre0 : ∀ t, Steps p.tables e below (s₁.setTop (mkF m 0 #[.val (.ref a1), .val (.int p2), .val (.int p3), .unset, .unset, .unset] [])) t → Steps p.tables e below (s₁.setTop (entryFrame m #[(.ref a1), (.int p2), (.int p3)] 6)) t := fun t k => castTop (ef_1 m a1 p2 p3) k
  obtain ⟨cl, Ar, Sz, Hc⟩ := V
  have pre1 : ∀ t, Steps p.tables e below (s₁.setTop (mkF m 7 #[.val (.ref a1), .val (.int p2), .val (.int p3), .val (.long (0 : Int64)), .second, .val (.int (p3 - (1 : Int32)))] [])) t → Steps p.tables e below (s₁.setTop (entryFrame m #[(.ref a1), (.int p2), (.int p3)] 6)) t := by
    intro t k
    refine pre0 t ?_
    show Steps p.tables e below (s₁.setTop (mkF m 0 #[.val (.ref a1), .val (.int p2), .val (.int p3), .unset, .unset, .unset] [])) _
    refine XS.lconst X0.here hx rfl (hb hby d1_0) ?_
    show Steps p.tables e below (s₁.setTop (mkF m 1 #[.val (.ref a1), .val (.int p2), .val (.int p3), .unset, .unset, .unset] [(.long (0 : Int64))])) _
    refine XS.lstoreN X0.here hx rfl (hb hby d1_1) rfl (l' := #[.val (.ref a1), .val (.int p2), .val (.int p3), .val (.long (0 : Int64)), .second, .unset]) rfl ?_
    show Steps p.tables e below (s₁.setTop (mkF m 2 #[.val (.ref a1), .val (.int p2), .val (.int p3), .val (.long (0 : Int64)), .second, .unset] [])) _
    refine XS.iloadN X0.here hx rfl (hb hby d1_2) rfl ?_
    show Steps p.tables e below (s₁.setTop (mkF m 3 #[.val (.ref a1), .val (.int p2), .val (.int p3), .val (.long (0 : Int64)), .second, .unset] [(.int p3)])) _
    refine XS.iconst X0.here hx rfl (hb hby d1_3) ?_
    show Steps p.tables e below (s₁.setTop (mkF m 4 #[.val (.ref a1), .val (.int p2), .val (.int p3), .val (.long (0 : Int64)), .second, .unset] [(.int (1 : Int32)), (.int p3)])) _
    refine XS.isub X0.here hx rfl (hb hby d1_4) rfl ?_
    show Steps p.tables e below (s₁.setTop (mkF m 5 #[.val (.ref a1), .val (.int p2), .val (.int p3), .val (.long (0 : Int64)), .second, .unset] [(.int (p3 - (1 : Int32)))])) _
    refine XS.istore X0.here hx rfl (hb hby d1_5) rfl (l' := #[.val (.ref a1), .val (.int p2), .val (.int p3), .val (.long (0 : Int64)), .second, .val (.int (p3 - (1 : Int32)))]) rfl ?_
    exact k
  have loop : ∀ (k : Nat) (i : Int32) (r : Int64), i.toInt = (k : Int) - 1 → k ≤ 8 → ∀ t, Steps p.tables e below (s₁.setTop (mkF m 35 #[.val (.ref a1), .val (.int p2), .val (.int p3), .val (.long (own_acc f p2.toNatClampNeg k r)), .second, .val (.int (-1 : Int32))] [])) t → Steps p.tables e below (s₁.setTop (mkF m 7 #[.val (.ref a1), .val (.int p2), .val (.int p3), .val (.long r), .second, .val (.int i)] [])) t := by
    intro k
    induction k with
    | zero =>
      intro i r hi hk t kk
      obtain rfl : i = (-1 : Int32) := Int32.toInt_inj.mp (by rw [hi]; rfl)
      show Steps p.tables e below (s₁.setTop (mkF m 7 #[.val (.ref a1), .val (.int p2), .val (.int p3), .val (.long r), .second, .val (.int (-1 : Int32))] [])) _
      refine XS.iload X0.here hx rfl (hb hby d1_7) rfl ?_
      show Steps p.tables e below (s₁.setTop (mkF m 9 #[.val (.ref a1), .val (.int p2), .val (.int p3), .val (.long r), .second, .val (.int (-1 : Int32))] [(.int (-1 : Int32))])) _
      refine XS.ifYes X0.here hx rfl (pc0 := 9) (pc' := 35) rfl (hb hby d1_9) rfl ((if0 _ _).trans (tlt (by decide : (-1 : Int32) < (0 : Int32))).1) (by decide) (by decide) ?_
      exact kk
    | succ k ih =>
      intro i r hi hk t kk
      have hik : i.toInt = k := by omega
      have h0i : ¬ i < (0 : Int32) := by rw [Int32.lt_iff_toInt_lt, hik]; simp only [Int32.reduceToInt]; omega
      obtain ⟨x1, x2, x3⟩ := own_idx ha hik (Nat.le_of_succ_le_succ hk)
      have hin := own_inb (c := cl) x1 x2 x3 Sz
      have hat : cl.slots[(p2 + i).toNatClampNeg]? = some (.int (f (p2.toNatClampNeg + k))) := by rw [x1]; exact Hc _ x3
      show Steps p.tables e below (s₁.setTop (mkF m 7 #[.val (.ref a1), .val (.int p2), .val (.int p3), .val (.long r), .second, .val (.int i)] [])) _
      refine XS.iload X0.here hx rfl (hb hby d1_7) rfl ?_
      show Steps p.tables e below (s₁.setTop (mkF m 9 #[.val (.ref a1), .val (.int p2), .val (.int p3), .val (.long r), .second, .val (.int i)] [(.int i)])) _
      refine XS.ifNo X0.here hx rfl (hb hby d1_9) rfl ((if0 _ _).trans (flt h0i).1) ?_
      show Steps p.tables e below (s₁.setTop (mkF m 12 #[.val (.ref a1), .val (.int p2), .val (.int p3), .val (.long r), .second, .val (.int i)] [])) _
      refine XS.lloadN X0.here hx rfl (hb hby d1_12) rfl ?_
      show Steps p.tables e below (s₁.setTop (mkF m 13 #[.val (.ref a1), .val (.int p2), .val (.int p3), .val (.long r), .second, .val (.int i)] [(.long r)])) _
      refine XS.bipush X0.here hx rfl (hb hby d1_13) ?_
      show Steps p.tables e below (s₁.setTop (mkF m 15 #[.val (.ref a1), .val (.int p2), .val (.int p3), .val (.long r), .second, .val (.int i)] [(.int (8 : Int32)), (.long r)])) _
      refine XS.lshl X0.here hx rfl (hb hby d1_15) rfl ?_
      show Steps p.tables e below (s₁.setTop (mkF m 16 #[.val (.ref a1), .val (.int p2), .val (.int p3), .val (.long r), .second, .val (.int i)] [(.long (r <<< ((8 : Int32) &&& 0x3f).toInt64))])) _
      refine XS.aloadN X0.here hx rfl (hb hby d1_16) rfl rfl ?_
      show Steps p.tables e below (s₁.setTop (mkF m 17 #[.val (.ref a1), .val (.int p2), .val (.int p3), .val (.long r), .second, .val (.int i)] [(.ref a1), (.long (r <<< ((8 : Int32) &&& 0x3f).toInt64))])) _
      refine XS.iloadN X0.here hx rfl (hb hby d1_17) rfl ?_
      show Steps p.tables e below (s₁.setTop (mkF m 18 #[.val (.ref a1), .val (.int p2), .val (.int p3), .val (.long r), .second, .val (.int i)] [(.int p2), (.ref a1), (.long (r <<< ((8 : Int32) &&& 0x3f).toInt64))])) _
      refine XS.iload X0.here hx rfl (hb hby d1_18) rfl ?_
      show Steps p.tables e below (s₁.setTop (mkF m 20 #[.val (.ref a1), .val (.int p2), .val (.int p3), .val (.long r), .second, .val (.int i)] [(.int i), (.int p2), (.ref a1), (.long (r <<< ((8 : Int32) &&& 0x3f).toInt64))])) _
      refine XS.iadd X0.here hx rfl (hb hby d1_20) rfl ?_
      show Steps p.tables e below (s₁.setTop (mkF m 21 #[.val (.ref a1), .val (.int p2), .val (.int p3), .val (.long r), .second, .val (.int i)] [(.int (p2 + i)), (.ref a1), (.long (r <<< ((8 : Int32) &&& 0x3f).toInt64))])) _
      refine X0.baloadBytes hx (j := (p2 + i)) (v := (.int (f (p2.toNatClampNeg + k)))) (by rw [e0]; exact Ar.1) (State.isArrayOf_alike hZ.alike Ar.2.1) Ar.2.2 hin hat (g := (mkF m 21 #[.val (.ref a1), .val (.int p2), .val (.int p3), .val (.long r), .second, .val (.int i)] [(.int (p2 + i)), (.ref a1), (.long (r <<< ((8 : Int32) &&& 0x3f).toInt64))])) rfl rfl (hb hby d1_21) _ ?_
      show Steps p.tables e below (s₁.setTop (mkF m 22 #[.val (.ref a1), .val (.int p2), .val (.int p3), .val (.long r), .second, .val (.int i)] [(.int (f (p2.toNatClampNeg + k))), (.long (r <<< ((8 : Int32) &&& 0x3f).toInt64))])) _
      refine XS.sipush X0.here hx rfl (hb hby d1_22) ?_
      show Steps p.tables e below (s₁.setTop (mkF m 25 #[.val (.ref a1), .val (.int p2), .val (.int p3), .val (.long r), .second, .val (.int i)] [(.int (255 : Int32)), (.int (f (p2.toNatClampNeg + k))), (.long (r <<< ((8 : Int32) &&& 0x3f).toInt64))])) _
      refine XS.iand X0.here hx rfl (hb hby d1_25) rfl ?_
      show Steps p.tables e below (s₁.setTop (mkF m 26 #[.val (.ref a1), .val (.int p2), .val (.int p3), .val (.long r), .second, .val (.int i)] [(.int ((f (p2.toNatClampNeg + k)) &&& (255 : Int32))), (.long (r <<< ((8 : Int32) &&& 0x3f).toInt64))])) _
      refine XS.i2l X0.here hx rfl (hb hby d1_26) rfl ?_
      show Steps p.tables e below (s₁.setTop (mkF m 27 #[.val (.ref a1), .val (.int p2), .val (.int p3), .val (.long r), .second, .val (.int i)] [(.long (((f (p2.toNatClampNeg + k)) &&& (255 : Int32)).toInt64)), (.long (r <<< ((8 : Int32) &&& 0x3f).toInt64))])) _
      refine XS.lor X0.here hx rfl (hb hby d1_27) rfl ?_
      show Steps p.tables e below (s₁.setTop (mkF m 28 #[.val (.ref a1), .val (.int p2), .val (.int p3), .val (.long r), .second, .val (.int i)] [(.long ((r <<< ((8 : Int32) &&& 0x3f).toInt64) ||| (((f (p2.toNatClampNeg + k)) &&& (255 : Int32)).toInt64)))])) _
      refine XS.lstoreN X0.here hx rfl (hb hby d1_28) rfl (l' := #[.val (.ref a1), .val (.int p2), .val (.int p3), .val (.long ((r <<< ((8 : Int32) &&& 0x3f).toInt64) ||| (((f (p2.toNatClampNeg + k)) &&& (255 : Int32)).toInt64))), .second, .val (.int i)]) rfl ?_
      show Steps p.tables e below (s₁.setTop (mkF m 29 #[.val (.ref a1), .val (.int p2), .val (.int p3), .val (.long ((r <<< ((8 : Int32) &&& 0x3f).toInt64) ||| (((f (p2.toNatClampNeg + k)) &&& (255 : Int32)).toInt64))), .second, .val (.int i)] [])) _
      refine XS.iinc X0.here hx rfl (hb hby d1_29) rfl (l' := #[.val (.ref a1), .val (.int p2), .val (.int p3), .val (.long ((r <<< ((8 : Int32) &&& 0x3f).toInt64) ||| (((f (p2.toNatClampNeg + k)) &&& (255 : Int32)).toInt64))), .second, .val (.int (i + (-1 : Int32)))]) rfl ?_
      show Steps p.tables e below (s₁.setTop (mkF m 32 #[.val (.ref a1), .val (.int p2), .val (.int p3), .val (.long ((r <<< ((8 : Int32) &&& 0x3f).toInt64) ||| (((f (p2.toNatClampNeg + k)) &&& (255 : Int32)).toInt64))), .second, .val (.int (i + (-1 : Int32)))] [])) _
      refine XS.goto X0.here hx rfl (pc0 := 32) (pc' := 7) rfl (hb hby d1_32) (by decide) (by decide) ?_
      exact ih (i + (-1 : Int32)) _ (own_dec hik) (Nat.le_of_succ_le hk) t kk
  have preL : ∀ t, Steps p.tables e below (s₁.setTop (mkF m 35 #[.val (.ref a1), .val (.int p2), .val (.int p3), .val (.long (own_acc f p2.toNatClampNeg p3.toNatClampNeg 0)), .second, .val (.int (-1 : Int32))] [])) t → Steps p.tables e below (s₁.setTop (entryFrame m #[(.ref a1), (.int p2), (.int p3)] 6)) t := fun t kk => pre1 t (loop p3.toNatClampNeg (p3 - (1 : Int32)) 0 (own_first hn).1 (own_first hn).2 t kk)
  obtain ⟨fs, hr, hrun, hended, hW, hsame⟩ := X0.leave (v := some (.long (own_acc f p2.toNatClampNeg p3.toNatClampNeg 0))) (fun h => by rw [Bd.returns] at h; cases h) (hlocks := BodyLoose.notSynchronized Bd)
  refine ⟨_, _, preL _ ?_, hrun, hended, _, _, rfl, ?_, ⟨_, rfl⟩, hW, hsame.mono (by decide) (by decide)⟩
  · show Steps p.tables e below (s₁.setTop (mkF m 35 #[.val (.ref a1), .val (.int p2), .val (.int p3), .val (.long (own_acc f p2.toNatClampNeg p3.toNatClampNeg 0)), .second, .val (.int (-1 : Int32))] [])) _
    refine XS.lloadN X0.here hx rfl (hb hby d1_35) rfl ?_
    show Steps p.tables e below (s₁.setTop (mkF m 36 #[.val (.ref a1), .val (.int p2), .val (.int p3), .val (.long (own_acc f p2.toNatClampNeg p3.toNatClampNeg 0)), .second, .val (.int (-1 : Int32))] [(.long (own_acc f p2.toNatClampNeg p3.toNatClampNeg 0))])) _
    exact retOut X0 hx (t := .long) Bd.returns rfl (Or.inr (Or.inl ⟨rfl, rfl, _, rfl⟩)) (hb hby d1_36) hr
  · show Qu Z a1 p2 p3 f h0 n0 _ s₁.heap _
    rw [e0]
    exact ⟨rfl, N0, rfl⟩
def Q0 (Z : State) (vv w1 w2 : Int64) (atRaw nRaw : Int32) (h0 : Heap) (n0 : Nat) (vo : Option Value) (h : Heap) (L : List Loc) : Prop := vo = some (.int (1 : Int32)) ∧ Fr n0 L
theorem pd_0 : parseMethodDescriptor "([BII)J" = some ⟨[(.array .byte), .int, .int], some .long⟩ := by decide +kernel
theorem ef_0 (m : MethodId) (vv : Int64) (w1 : Int64) (w2 : Int64) (atRaw : Int32) (nRaw : Int32) : entryFrame m #[(.long vv), (.long w1), (.long w2), (.int atRaw), (.int nRaw)] maxLocals = mkF m 0 #[.val (.long vv), .second, .val (.long w1), .second, .val (.long w2), .second, .val (.int atRaw), .val (.int nRaw), .unset, .unset, .unset, .unset, .unset] [] := by first | (simp [entryFrame, mkF, argsToLocals, Value.category, maxLocals]; done) | rfl
theorem pn_1 : plainName "com/example/strict_wire/strictwire/codec/LittleEndianUnsignedPinLaw" = true := by first | (simp [plainName, overriddenIn]; done) | decide +kernel
set_option maxRecDepth 65536 in
set_option maxHeartbeats 40000000 in
theorem rm0 (l : Launch) (Z : State) (a0 : Array Value) (hw : ∀ d ∈ tables_1, d.before a0 Z = true) (ws : List Jvm.Cond) (vv : Int64) (w1 : Int64) (w2 : Int64) (atRaw : Int32) (nRaw : Int32)  (h0 : Heap) (n0 : Nat) (Z0 : n0 ≤ h0.size)  :
    MetFree l x (head1 (Jvm.Cond.code x code maxLocals ret :: ws) room_1) (fun a U => a = #[(.long vv), (.long w1), (.long w2), (.int atRaw), (.int nRaw)] ∧ Z.Warmed39 U.vm ∧ U.heap = h0) (fun _ _ _ _ _ => True) (fun _ U o U' => ∃ v L, o = .returned v ∧ Q0 Z vv w1 w2 atRaw nRaw h0 n0 v U'.heap L ∧ FrameEnd U o U' L room_1.cells room_1.slots) := by
  refine MetFree.of_bodySF (plainFor_of_name pn_1) hisR ?_
  intro p e s m args below meth c s₁ Bd hml0 hP hK
  obtain ⟨rfl, hZ, hh⟩ := hP
  have hx := Bd.exec
  have hby := Bd.bytes
  have hml : c.maxLocals = 13 := hml0
  have hown : s.vm.findClass "com/example/strict_wire/strictwire/codec/LittleEndianUnsignedPinLaw" = some m.cls := findClass_of_methodNamed Bd.named
  have hnm := (name_of_methodNamed Bd.named Bd.method).1
  have X0 : Stand p l e room_1 s m #[(.long vv), (.long w1), (.long w2), (.int atRaw), (.int nRaw)] below meth c s₁ [] 0 0 := Stand.of_body Bd
  have e0 : s₁.heap = h0 := by rw [← hh, Bd.state]; rfl
  have N0 := Fr.nil n0
  have pre0 : ∀ t, Steps p.tables e below (s₁.setTop (mkF m 0 #[.val (.long vv), .second, .val (.long w1), .second, .val (.long w2), .second, .val (.int atRaw), .val (.int nRaw), .unset, .unset, .unset, .unset, .unset] [])) t → Steps p.tables e below (s₁.setTop (entryFrame m #[(.long vv), (.long w1), (.long w2), (.int atRaw), (.int nRaw)] maxLocals)) t := fun t k => castTop (ef_0 m vv w1 w2 atRaw nRaw) k
  obtain ⟨at_, e_at_⟩ : ∃ z : Int32, z = (atRaw &&& (7 : Int32)) := ⟨_, rfl⟩
  obtain ⟨n, e_n⟩ : ∃ z : Int32, z = ((nRaw &&& (2147483647 : Int32)) % (9 : Int32)) := ⟨_, rfl⟩
  have pre1 : ∀ t, Steps p.tables e below (s₁.setTop (mkF m 17 #[.val (.long vv), .second, .val (.long w1), .second, .val (.long w2), .second, .val (.int atRaw), .val (.int nRaw), .val (.int at_), .val (.int n), .unset, .unset, .unset] [])) t → Steps p.tables e below (s₁.setTop (entryFrame m #[(.long vv), (.long w1), (.long w2), (.int atRaw), (.int nRaw)] maxLocals)) t := by
    intro t k
    subst e_at_
    subst e_n
    refine pre0 t ?_
    show Steps p.tables e below (s₁.setTop (mkF m 0 #[.val (.long vv), .second, .val (.long w1), .second, .val (.long w2), .second, .val (.int atRaw), .val (.int nRaw), .unset, .unset, .unset, .unset, .unset] [])) _
    refine XS.iload X0.here hx rfl (hb hby at_0) rfl ?_
    show Steps p.tables e below (s₁.setTop (mkF m 2 #[.val (.long vv), .second, .val (.long w1), .second, .val (.long w2), .second, .val (.int atRaw), .val (.int nRaw), .unset, .unset, .unset, .unset, .unset] [(.int atRaw)])) _
    refine XS.bipush X0.here hx rfl (hb hby at_2) ?_
    show Steps p.tables e below (s₁.setTop (mkF m 4 #[.val (.long vv), .second, .val (.long w1), .second, .val (.long w2), .second, .val (.int atRaw), .val (.int nRaw), .unset, .unset, .unset, .unset, .unset] [(.int (7 : Int32)), (.int atRaw)])) _
    refine XS.iand X0.here hx rfl (hb hby at_4) rfl ?_
    show Steps p.tables e below (s₁.setTop (mkF m 5 #[.val (.long vv), .second, .val (.long w1), .second, .val (.long w2), .second, .val (.int atRaw), .val (.int nRaw), .unset, .unset, .unset, .unset, .unset] [(.int (atRaw &&& (7 : Int32)))])) _
    refine XS.istore X0.here hx rfl (hb hby at_5) rfl (l' := #[.val (.long vv), .second, .val (.long w1), .second, .val (.long w2), .second, .val (.int atRaw), .val (.int nRaw), .val (.int (atRaw &&& (7 : Int32))), .unset, .unset, .unset, .unset]) rfl ?_
    show Steps p.tables e below (s₁.setTop (mkF m 7 #[.val (.long vv), .second, .val (.long w1), .second, .val (.long w2), .second, .val (.int atRaw), .val (.int nRaw), .val (.int (atRaw &&& (7 : Int32))), .unset, .unset, .unset, .unset] [])) _
    refine XS.iload X0.here hx rfl (hb hby at_7) rfl ?_
    show Steps p.tables e below (s₁.setTop (mkF m 9 #[.val (.long vv), .second, .val (.long w1), .second, .val (.long w2), .second, .val (.int atRaw), .val (.int nRaw), .val (.int (atRaw &&& (7 : Int32))), .unset, .unset, .unset, .unset] [(.int nRaw)])) _
    refine X0.ldcInt hx hown (mvT hZ (hw _ (List.mem_of_getElem? (i := 0) rfl))) (g := (mkF m 9 #[.val (.long vv), .second, .val (.long w1), .second, .val (.long w2), .second, .val (.int atRaw), .val (.int nRaw), .val (.int (atRaw &&& (7 : Int32))), .unset, .unset, .unset, .unset] [(.int nRaw)])) rfl (hb hby at_9) _ ?_
    show Steps p.tables e below (s₁.setTop (mkF m 11 #[.val (.long vv), .second, .val (.long w1), .second, .val (.long w2), .second, .val (.int atRaw), .val (.int nRaw), .val (.int (atRaw &&& (7 : Int32))), .unset, .unset, .unset, .unset] [(.int (2147483647 : Int32)), (.int nRaw)])) _
    refine XS.iand X0.here hx rfl (hb hby at_11) rfl ?_
    show Steps p.tables e below (s₁.setTop (mkF m 12 #[.val (.long vv), .second, .val (.long w1), .second, .val (.long w2), .second, .val (.int atRaw), .val (.int nRaw), .val (.int (atRaw &&& (7 : Int32))), .unset, .unset, .unset, .unset] [(.int (nRaw &&& (2147483647 : Int32)))])) _
    refine XS.bipush X0.here hx rfl (hb hby at_12) ?_
    show Steps p.tables e below (s₁.setTop (mkF m 14 #[.val (.long vv), .second, .val (.long w1), .second, .val (.long w2), .second, .val (.int atRaw), .val (.int nRaw), .val (.int (atRaw &&& (7 : Int32))), .unset, .unset, .unset, .unset] [(.int (9 : Int32)), (.int (nRaw &&& (2147483647 : Int32)))])) _
    refine iremM X0 hx rfl (hb hby at_14) rfl (by decide) ?_
    show Steps p.tables e below (s₁.setTop (mkF m 15 #[.val (.long vv), .second, .val (.long w1), .second, .val (.long w2), .second, .val (.int atRaw), .val (.int nRaw), .val (.int (atRaw &&& (7 : Int32))), .unset, .unset, .unset, .unset] [(.int ((nRaw &&& (2147483647 : Int32)) % (9 : Int32)))])) _
    refine XS.istore X0.here hx rfl (hb hby at_15) rfl (l' := #[.val (.long vv), .second, .val (.long w1), .second, .val (.long w2), .second, .val (.int atRaw), .val (.int nRaw), .val (.int (atRaw &&& (7 : Int32))), .val (.int ((nRaw &&& (2147483647 : Int32)) % (9 : Int32))), .unset, .unset, .unset]) rfl ?_
    exact k
  have ha : 0 ≤ at_.toInt ∧ at_.toInt ≤ 7 := by rw [e_at_]; exact own_at atRaw
  have hn : 0 ≤ n.toInt ∧ n.toInt ≤ 8 := by rw [e_n]; exact own_n nRaw
  obtain ⟨T2, h2, k2, X2, e2, E2, A2, st2⟩ := newP X0 hx hZ (hw _ (List.mem_of_getElem? (i := 1) rfl)) e0 (g := (mkF m 19 #[.val (.long vv), .second, .val (.long w1), .second, .val (.long w2), .second, .val (.int atRaw), .val (.int nRaw), .val (.int at_), .val (.int n), .unset, .unset, .unset] [(.int (16 : Int32))])) rfl (hb hby at_19) rfl (by decide) (cap := 16) (by decide) (by decide) (by decide) (by decide)
  obtain ⟨b2, g2⟩ : ∃ z, z = h0.size := ⟨_, rfl⟩
  rw [← g2] at A2 st2
  have V_b2 := Arv.new A2 (by decide)
  have g0b : n0 ≤ b2 := Nat.le_trans Z0 (Nat.le_of_eq g2.symm)
  obtain ⟨f0, B0⟩ : ∃ f, own_BA Z h2 b2 f := ⟨_, own_new A2⟩
  have S0 : n0 ≤ h2.size := Nat.le_trans Z0 E2.1
  obtain ⟨c0, Ar0, Sz0, Hc0⟩ := B0
  have hin0 : ¬ ((0 : Int32) < 0 ∨ c0.slots.size ≤ ((0 : Int32)).toNatClampNeg) := by rw [Sz0]; decide
  obtain ⟨T3, h3, X3, e3, W3, st3⟩ := stB X2 hx hZ e2 Ar0 (j := (0 : Int32)) hin0 (g := (mkF m 29 #[.val (.long vv), .second, .val (.long w1), .second, .val (.long w2), .second, .val (.int atRaw), .val (.int nRaw), .val (.int at_), .val (.int n), .val (.ref b2), .unset, .unset] [(.int ((w1.toInt32).toInt8.toInt32)), (.int (0 : Int32)), (.ref b2)])) rfl rfl (hb hby at_29)
  obtain ⟨LL3, X3, N3⟩ := own_loc X3 (Fr.snoc X3 N0 g0b)
  obtain ⟨f1, B1⟩ : ∃ f, own_BA Z h3 b2 f := ⟨_, own_wr Ar0 Sz0 Hc0 W3⟩
  have S1 : n0 ≤ h3.size := Nat.le_trans S0 (Keep.of_wr W3).1
  have pre4 : ∀ t, Steps p.tables e below (T3.setTop (mkF m 30 #[.val (.long vv), .second, .val (.long w1), .second, .val (.long w2), .second, .val (.int atRaw), .val (.int nRaw), .val (.int at_), .val (.int n), .val (.ref b2), .unset, .unset] [])) t → Steps p.tables e below (s₁.setTop (entryFrame m #[(.long vv), (.long w1), (.long w2), (.int atRaw), (.int nRaw)] maxLocals)) t := by
    intro t k
    refine pre1 t ?_
    show Steps p.tables e below (s₁.setTop (mkF m 17 #[.val (.long vv), .second, .val (.long w1), .second, .val (.long w2), .second, .val (.int atRaw), .val (.int nRaw), .val (.int at_), .val (.int n), .unset, .unset, .unset] [])) _
    refine XS.bipush X0.here hx rfl (hb hby at_17) ?_
    show Steps p.tables e below (s₁.setTop (mkF m 19 #[.val (.long vv), .second, .val (.long w1), .second, .val (.long w2), .second, .val (.int atRaw), .val (.int nRaw), .val (.int at_), .val (.int n), .unset, .unset, .unset] [(.int (16 : Int32))])) _
    refine st2 _ ?_
    show Steps p.tables e below (T2.setTop (mkF m 21 #[.val (.long vv), .second, .val (.long w1), .second, .val (.long w2), .second, .val (.int atRaw), .val (.int nRaw), .val (.int at_), .val (.int n), .unset, .unset, .unset] [(.ref b2)])) _
    refine XS.astore X2.here hx rfl (hb hby at_21) rfl rfl (l' := #[.val (.long vv), .second, .val (.long w1), .second, .val (.long w2), .second, .val (.int atRaw), .val (.int nRaw), .val (.int at_), .val (.int n), .val (.ref b2), .unset, .unset]) rfl ?_
    show Steps p.tables e below (T2.setTop (mkF m 23 #[.val (.long vv), .second, .val (.long w1), .second, .val (.long w2), .second, .val (.int atRaw), .val (.int nRaw), .val (.int at_), .val (.int n), .val (.ref b2), .unset, .unset] [])) _
    refine XS.aload X2.here hx rfl (hb hby at_23) rfl rfl ?_
    show Steps p.tables e below (T2.setTop (mkF m 25 #[.val (.long vv), .second, .val (.long w1), .second, .val (.long w2), .second, .val (.int atRaw), .val (.int nRaw), .val (.int at_), .val (.int n), .val (.ref b2), .unset, .unset] [(.ref b2)])) _
    refine XS.iconst X2.here hx rfl (hb hby at_25) ?_
    show Steps p.tables e below (T2.setTop (mkF m 26 #[.val (.long vv), .second, .val (.long w1), .second, .val (.long w2), .second, .val (.int atRaw), .val (.int nRaw), .val (.int at_), .val (.int n), .val (.ref b2), .unset, .unset] [(.int (0 : Int32)), (.ref b2)])) _
    refine XS.lloadN X2.here hx rfl (hb hby at_26) rfl ?_
    show Steps p.tables e below (T2.setTop (mkF m 27 #[.val (.long vv), .second, .val (.long w1), .second, .val (.long w2), .second, .val (.int atRaw), .val (.int nRaw), .val (.int at_), .val (.int n), .val (.ref b2), .unset, .unset] [(.long w1), (.int (0 : Int32)), (.ref b2)])) _
    refine XS.l2i X2.here hx rfl (hb hby at_27) rfl ?_
    show Steps p.tables e below (T2.setTop (mkF m 28 #[.val (.long vv), .second, .val (.long w1), .second, .val (.long w2), .second, .val (.int atRaw), .val (.int nRaw), .val (.int at_), .val (.int n), .val (.ref b2), .unset, .unset] [(.int (w1.toInt32)), (.int (0 : Int32)), (.ref b2)])) _
    refine XS.i2b X2.here hx rfl (hb hby at_28) rfl ?_
    show Steps p.tables e below (T2.setTop (mkF m 29 #[.val (.long vv), .second, .val (.long w1), .second, .val (.long w2), .second, .val (.int atRaw), .val (.int nRaw), .val (.int at_), .val (.int n), .val (.ref b2), .unset, .unset] [(.int ((w1.toInt32).toInt8.toInt32)), (.int (0 : Int32)), (.ref b2)])) _
    refine st3 _ ?_
    exact k
  obtain ⟨c1, Ar1, Sz1, Hc1⟩ := B1
  have hin1 : ¬ ((1 : Int32) < 0 ∨ c1.slots.size ≤ ((1 : Int32)).toNatClampNeg) := by rw [Sz1]; decide
  obtain ⟨T5, h5, X5, e5, W5, st5⟩ := stB X3 hx hZ e3 Ar1 (j := (1 : Int32)) hin1 (g := (mkF m 39 #[.val (.long vv), .second, .val (.long w1), .second, .val (.long w2), .second, .val (.int atRaw), .val (.int nRaw), .val (.int at_), .val (.int n), .val (.ref b2), .unset, .unset] [(.int ((((w1.toUInt64 >>> ((8 : Int32) &&& 0x3f).toInt64.toUInt64).toInt64).toInt32).toInt8.toInt32)), (.int (1 : Int32)), (.ref b2)])) rfl rfl (hb hby at_39)
  obtain ⟨LL5, X5, N5⟩ := own_loc X5 (Fr.snoc X5 N3 g0b)
  obtain ⟨f2, B2⟩ : ∃ f, own_BA Z h5 b2 f := ⟨_, own_wr Ar1 Sz1 Hc1 W5⟩
  have S2 : n0 ≤ h5.size := Nat.le_trans S1 (Keep.of_wr W5).1
  have pre6 : ∀ t, Steps p.tables e below (T5.setTop (mkF m 40 #[.val (.long vv), .second, .val (.long w1), .second, .val (.long w2), .second, .val (.int atRaw), .val (.int nRaw), .val (.int at_), .val (.int n), .val (.ref b2), .unset, .unset] [])) t → Steps p.tables e below (s₁.setTop (entryFrame m #[(.long vv), (.long w1), (.long w2), (.int atRaw), (.int nRaw)] maxLocals)) t := by
    intro t k
    refine pre4 t ?_
    show Steps p.tables e below (T3.setTop (mkF m 30 #[.val (.long vv), .second, .val (.long w1), .second, .val (.long w2), .second, .val (.int atRaw), .val (.int nRaw), .val (.int at_), .val (.int n), .val (.ref b2), .unset, .unset] [])) _
    refine XS.aload X3.here hx rfl (hb hby at_30) rfl rfl ?_
    show Steps p.tables e below (T3.setTop (mkF m 32 #[.val (.long vv), .second, .val (.long w1), .second, .val (.long w2), .second, .val (.int atRaw), .val (.int nRaw), .val (.int at_), .val (.int n), .val (.ref b2), .unset, .unset] [(.ref b2)])) _
    refine XS.iconst X3.here hx rfl (hb hby at_32) ?_
    show Steps p.tables e below (T3.setTop (mkF m 33 #[.val (.long vv), .second, .val (.long w1), .second, .val (.long w2), .second, .val (.int atRaw), .val (.int nRaw), .val (.int at_), .val (.int n), .val (.ref b2), .unset, .unset] [(.int (1 : Int32)), (.ref b2)])) _
    refine XS.lloadN X3.here hx rfl (hb hby at_33) rfl ?_
    show Steps p.tables e below (T3.setTop (mkF m 34 #[.val (.long vv), .second, .val (.long w1), .second, .val (.long w2), .second, .val (.int atRaw), .val (.int nRaw), .val (.int at_), .val (.int n), .val (.ref b2), .unset, .unset] [(.long w1), (.int (1 : Int32)), (.ref b2)])) _
    refine XS.bipush X3.here hx rfl (hb hby at_34) ?_
    show Steps p.tables e below (T3.setTop (mkF m 36 #[.val (.long vv), .second, .val (.long w1), .second, .val (.long w2), .second, .val (.int atRaw), .val (.int nRaw), .val (.int at_), .val (.int n), .val (.ref b2), .unset, .unset] [(.int (8 : Int32)), (.long w1), (.int (1 : Int32)), (.ref b2)])) _
    refine XS.lushr X3.here hx rfl (hb hby at_36) rfl ?_
    show Steps p.tables e below (T3.setTop (mkF m 37 #[.val (.long vv), .second, .val (.long w1), .second, .val (.long w2), .second, .val (.int atRaw), .val (.int nRaw), .val (.int at_), .val (.int n), .val (.ref b2), .unset, .unset] [(.long ((w1.toUInt64 >>> ((8 : Int32) &&& 0x3f).toInt64.toUInt64).toInt64)), (.int (1 : Int32)), (.ref b2)])) _
    refine XS.l2i X3.here hx rfl (hb hby at_37) rfl ?_
    show Steps p.tables e below (T3.setTop (mkF m 38 #[.val (.long vv), .second, .val (.long w1), .second, .val (.long w2), .second, .val (.int atRaw), .val (.int nRaw), .val (.int at_), .val (.int n), .val (.ref b2), .unset, .unset] [(.int (((w1.toUInt64 >>> ((8 : Int32) &&& 0x3f).toInt64.toUInt64).toInt64).toInt32)), (.int (1 : Int32)), (.ref b2)])) _
    refine XS.i2b X3.here hx rfl (hb hby at_38) rfl ?_
    show Steps p.tables e below (T3.setTop (mkF m 39 #[.val (.long vv), .second, .val (.long w1), .second, .val (.long w2), .second, .val (.int atRaw), .val (.int nRaw), .val (.int at_), .val (.int n), .val (.ref b2), .unset, .unset] [(.int ((((w1.toUInt64 >>> ((8 : Int32) &&& 0x3f).toInt64.toUInt64).toInt64).toInt32).toInt8.toInt32)), (.int (1 : Int32)), (.ref b2)])) _
    refine st5 _ ?_
    exact k
  obtain ⟨c2, Ar2, Sz2, Hc2⟩ := B2
  have hin2 : ¬ ((2 : Int32) < 0 ∨ c2.slots.size ≤ ((2 : Int32)).toNatClampNeg) := by rw [Sz2]; decide
  obtain ⟨T7, h7, X7, e7, W7, st7⟩ := stB X5 hx hZ e5 Ar2 (j := (2 : Int32)) hin2 (g := (mkF m 49 #[.val (.long vv), .second, .val (.long w1), .second, .val (.long w2), .second, .val (.int atRaw), .val (.int nRaw), .val (.int at_), .val (.int n), .val (.ref b2), .unset, .unset] [(.int ((((w1.toUInt64 >>> ((16 : Int32) &&& 0x3f).toInt64.toUInt64).toInt64).toInt32).toInt8.toInt32)), (.int (2 : Int32)), (.ref b2)])) rfl rfl (hb hby at_49)
  obtain ⟨LL7, X7, N7⟩ := own_loc X7 (Fr.snoc X7 N5 g0b)
  obtain ⟨f3, B3⟩ : ∃ f, own_BA Z h7 b2 f := ⟨_, own_wr Ar2 Sz2 Hc2 W7⟩
  have S3 : n0 ≤ h7.size := Nat.le_trans S2 (Keep.of_wr W7).1
  have pre8 : ∀ t, Steps p.tables e below (T7.setTop (mkF m 50 #[.val (.long vv), .second, .val (.long w1), .second, .val (.long w2), .second, .val (.int atRaw), .val (.int nRaw), .val (.int at_), .val (.int n), .val (.ref b2), .unset, .unset] [])) t → Steps p.tables e below (s₁.setTop (entryFrame m #[(.long vv), (.long w1), (.long w2), (.int atRaw), (.int nRaw)] maxLocals)) t := by
    intro t k
    refine pre6 t ?_
    show Steps p.tables e below (T5.setTop (mkF m 40 #[.val (.long vv), .second, .val (.long w1), .second, .val (.long w2), .second, .val (.int atRaw), .val (.int nRaw), .val (.int at_), .val (.int n), .val (.ref b2), .unset, .unset] [])) _
    refine XS.aload X5.here hx rfl (hb hby at_40) rfl rfl ?_
    show Steps p.tables e below (T5.setTop (mkF m 42 #[.val (.long vv), .second, .val (.long w1), .second, .val (.long w2), .second, .val (.int atRaw), .val (.int nRaw), .val (.int at_), .val (.int n), .val (.ref b2), .unset, .unset] [(.ref b2)])) _
    refine XS.iconst X5.here hx rfl (hb hby at_42) ?_
    show Steps p.tables e below (T5.setTop (mkF m 43 #[.val (.long vv), .second, .val (.long w1), .second, .val (.long w2), .second, .val (.int atRaw), .val (.int nRaw), .val (.int at_), .val (.int n), .val (.ref b2), .unset, .unset] [(.int (2 : Int32)), (.ref b2)])) _
    refine XS.lloadN X5.here hx rfl (hb hby at_43) rfl ?_
    show Steps p.tables e below (T5.setTop (mkF m 44 #[.val (.long vv), .second, .val (.long w1), .second, .val (.long w2), .second, .val (.int atRaw), .val (.int nRaw), .val (.int at_), .val (.int n), .val (.ref b2), .unset, .unset] [(.long w1), (.int (2 : Int32)), (.ref b2)])) _
    refine XS.bipush X5.here hx rfl (hb hby at_44) ?_
    show Steps p.tables e below (T5.setTop (mkF m 46 #[.val (.long vv), .second, .val (.long w1), .second, .val (.long w2), .second, .val (.int atRaw), .val (.int nRaw), .val (.int at_), .val (.int n), .val (.ref b2), .unset, .unset] [(.int (16 : Int32)), (.long w1), (.int (2 : Int32)), (.ref b2)])) _
    refine XS.lushr X5.here hx rfl (hb hby at_46) rfl ?_
    show Steps p.tables e below (T5.setTop (mkF m 47 #[.val (.long vv), .second, .val (.long w1), .second, .val (.long w2), .second, .val (.int atRaw), .val (.int nRaw), .val (.int at_), .val (.int n), .val (.ref b2), .unset, .unset] [(.long ((w1.toUInt64 >>> ((16 : Int32) &&& 0x3f).toInt64.toUInt64).toInt64)), (.int (2 : Int32)), (.ref b2)])) _
    refine XS.l2i X5.here hx rfl (hb hby at_47) rfl ?_
    show Steps p.tables e below (T5.setTop (mkF m 48 #[.val (.long vv), .second, .val (.long w1), .second, .val (.long w2), .second, .val (.int atRaw), .val (.int nRaw), .val (.int at_), .val (.int n), .val (.ref b2), .unset, .unset] [(.int (((w1.toUInt64 >>> ((16 : Int32) &&& 0x3f).toInt64.toUInt64).toInt64).toInt32)), (.int (2 : Int32)), (.ref b2)])) _
    refine XS.i2b X5.here hx rfl (hb hby at_48) rfl ?_
    show Steps p.tables e below (T5.setTop (mkF m 49 #[.val (.long vv), .second, .val (.long w1), .second, .val (.long w2), .second, .val (.int atRaw), .val (.int nRaw), .val (.int at_), .val (.int n), .val (.ref b2), .unset, .unset] [(.int ((((w1.toUInt64 >>> ((16 : Int32) &&& 0x3f).toInt64.toUInt64).toInt64).toInt32).toInt8.toInt32)), (.int (2 : Int32)), (.ref b2)])) _
    refine st7 _ ?_
    exact k
  obtain ⟨c3, Ar3, Sz3, Hc3⟩ := B3
  have hin3 : ¬ ((3 : Int32) < 0 ∨ c3.slots.size ≤ ((3 : Int32)).toNatClampNeg) := by rw [Sz3]; decide
  obtain ⟨T9, h9, X9, e9, W9, st9⟩ := stB X7 hx hZ e7 Ar3 (j := (3 : Int32)) hin3 (g := (mkF m 59 #[.val (.long vv), .second, .val (.long w1), .second, .val (.long w2), .second, .val (.int atRaw), .val (.int nRaw), .val (.int at_), .val (.int n), .val (.ref b2), .unset, .unset] [(.int ((((w1.toUInt64 >>> ((24 : Int32) &&& 0x3f).toInt64.toUInt64).toInt64).toInt32).toInt8.toInt32)), (.int (3 : Int32)), (.ref b2)])) rfl rfl (hb hby at_59)
  obtain ⟨LL9, X9, N9⟩ := own_loc X9 (Fr.snoc X9 N7 g0b)
  obtain ⟨f4, B4⟩ : ∃ f, own_BA Z h9 b2 f := ⟨_, own_wr Ar3 Sz3 Hc3 W9⟩
  have S4 : n0 ≤ h9.size := Nat.le_trans S3 (Keep.of_wr W9).1
  have pre10 : ∀ t, Steps p.tables e below (T9.setTop (mkF m 60 #[.val (.long vv), .second, .val (.long w1), .second, .val (.long w2), .second, .val (.int atRaw), .val (.int nRaw), .val (.int at_), .val (.int n), .val (.ref b2), .unset, .unset] [])) t → Steps p.tables e below (s₁.setTop (entryFrame m #[(.long vv), (.long w1), (.long w2), (.int atRaw), (.int nRaw)] maxLocals)) t := by
    intro t k
    refine pre8 t ?_
    show Steps p.tables e below (T7.setTop (mkF m 50 #[.val (.long vv), .second, .val (.long w1), .second, .val (.long w2), .second, .val (.int atRaw), .val (.int nRaw), .val (.int at_), .val (.int n), .val (.ref b2), .unset, .unset] [])) _
    refine XS.aload X7.here hx rfl (hb hby at_50) rfl rfl ?_
    show Steps p.tables e below (T7.setTop (mkF m 52 #[.val (.long vv), .second, .val (.long w1), .second, .val (.long w2), .second, .val (.int atRaw), .val (.int nRaw), .val (.int at_), .val (.int n), .val (.ref b2), .unset, .unset] [(.ref b2)])) _
    refine XS.iconst X7.here hx rfl (hb hby at_52) ?_
    show Steps p.tables e below (T7.setTop (mkF m 53 #[.val (.long vv), .second, .val (.long w1), .second, .val (.long w2), .second, .val (.int atRaw), .val (.int nRaw), .val (.int at_), .val (.int n), .val (.ref b2), .unset, .unset] [(.int (3 : Int32)), (.ref b2)])) _
    refine XS.lloadN X7.here hx rfl (hb hby at_53) rfl ?_
    show Steps p.tables e below (T7.setTop (mkF m 54 #[.val (.long vv), .second, .val (.long w1), .second, .val (.long w2), .second, .val (.int atRaw), .val (.int nRaw), .val (.int at_), .val (.int n), .val (.ref b2), .unset, .unset] [(.long w1), (.int (3 : Int32)), (.ref b2)])) _
    refine XS.bipush X7.here hx rfl (hb hby at_54) ?_
    show Steps p.tables e below (T7.setTop (mkF m 56 #[.val (.long vv), .second, .val (.long w1), .second, .val (.long w2), .second, .val (.int atRaw), .val (.int nRaw), .val (.int at_), .val (.int n), .val (.ref b2), .unset, .unset] [(.int (24 : Int32)), (.long w1), (.int (3 : Int32)), (.ref b2)])) _
    refine XS.lushr X7.here hx rfl (hb hby at_56) rfl ?_
    show Steps p.tables e below (T7.setTop (mkF m 57 #[.val (.long vv), .second, .val (.long w1), .second, .val (.long w2), .second, .val (.int atRaw), .val (.int nRaw), .val (.int at_), .val (.int n), .val (.ref b2), .unset, .unset] [(.long ((w1.toUInt64 >>> ((24 : Int32) &&& 0x3f).toInt64.toUInt64).toInt64)), (.int (3 : Int32)), (.ref b2)])) _
    refine XS.l2i X7.here hx rfl (hb hby at_57) rfl ?_
    show Steps p.tables e below (T7.setTop (mkF m 58 #[.val (.long vv), .second, .val (.long w1), .second, .val (.long w2), .second, .val (.int atRaw), .val (.int nRaw), .val (.int at_), .val (.int n), .val (.ref b2), .unset, .unset] [(.int (((w1.toUInt64 >>> ((24 : Int32) &&& 0x3f).toInt64.toUInt64).toInt64).toInt32)), (.int (3 : Int32)), (.ref b2)])) _
    refine XS.i2b X7.here hx rfl (hb hby at_58) rfl ?_
    show Steps p.tables e below (T7.setTop (mkF m 59 #[.val (.long vv), .second, .val (.long w1), .second, .val (.long w2), .second, .val (.int atRaw), .val (.int nRaw), .val (.int at_), .val (.int n), .val (.ref b2), .unset, .unset] [(.int ((((w1.toUInt64 >>> ((24 : Int32) &&& 0x3f).toInt64.toUInt64).toInt64).toInt32).toInt8.toInt32)), (.int (3 : Int32)), (.ref b2)])) _
    refine st9 _ ?_
    exact k
  obtain ⟨c4, Ar4, Sz4, Hc4⟩ := B4
  have hin4 : ¬ ((4 : Int32) < 0 ∨ c4.slots.size ≤ ((4 : Int32)).toNatClampNeg) := by rw [Sz4]; decide
  obtain ⟨T11, h11, X11, e11, W11, st11⟩ := stB X9 hx hZ e9 Ar4 (j := (4 : Int32)) hin4 (g := (mkF m 69 #[.val (.long vv), .second, .val (.long w1), .second, .val (.long w2), .second, .val (.int atRaw), .val (.int nRaw), .val (.int at_), .val (.int n), .val (.ref b2), .unset, .unset] [(.int ((((w1.toUInt64 >>> ((32 : Int32) &&& 0x3f).toInt64.toUInt64).toInt64).toInt32).toInt8.toInt32)), (.int (4 : Int32)), (.ref b2)])) rfl rfl (hb hby at_69)
  obtain ⟨LL11, X11, N11⟩ := own_loc X11 (Fr.snoc X11 N9 g0b)
  obtain ⟨f5, B5⟩ : ∃ f, own_BA Z h11 b2 f := ⟨_, own_wr Ar4 Sz4 Hc4 W11⟩
  have S5 : n0 ≤ h11.size := Nat.le_trans S4 (Keep.of_wr W11).1
  have pre12 : ∀ t, Steps p.tables e below (T11.setTop (mkF m 70 #[.val (.long vv), .second, .val (.long w1), .second, .val (.long w2), .second, .val (.int atRaw), .val (.int nRaw), .val (.int at_), .val (.int n), .val (.ref b2), .unset, .unset] [])) t → Steps p.tables e below (s₁.setTop (entryFrame m #[(.long vv), (.long w1), (.long w2), (.int atRaw), (.int nRaw)] maxLocals)) t := by
    intro t k
    refine pre10 t ?_
    show Steps p.tables e below (T9.setTop (mkF m 60 #[.val (.long vv), .second, .val (.long w1), .second, .val (.long w2), .second, .val (.int atRaw), .val (.int nRaw), .val (.int at_), .val (.int n), .val (.ref b2), .unset, .unset] [])) _
    refine XS.aload X9.here hx rfl (hb hby at_60) rfl rfl ?_
    show Steps p.tables e below (T9.setTop (mkF m 62 #[.val (.long vv), .second, .val (.long w1), .second, .val (.long w2), .second, .val (.int atRaw), .val (.int nRaw), .val (.int at_), .val (.int n), .val (.ref b2), .unset, .unset] [(.ref b2)])) _
    refine XS.iconst X9.here hx rfl (hb hby at_62) ?_
    show Steps p.tables e below (T9.setTop (mkF m 63 #[.val (.long vv), .second, .val (.long w1), .second, .val (.long w2), .second, .val (.int atRaw), .val (.int nRaw), .val (.int at_), .val (.int n), .val (.ref b2), .unset, .unset] [(.int (4 : Int32)), (.ref b2)])) _
    refine XS.lloadN X9.here hx rfl (hb hby at_63) rfl ?_
    show Steps p.tables e below (T9.setTop (mkF m 64 #[.val (.long vv), .second, .val (.long w1), .second, .val (.long w2), .second, .val (.int atRaw), .val (.int nRaw), .val (.int at_), .val (.int n), .val (.ref b2), .unset, .unset] [(.long w1), (.int (4 : Int32)), (.ref b2)])) _
    refine XS.bipush X9.here hx rfl (hb hby at_64) ?_
    show Steps p.tables e below (T9.setTop (mkF m 66 #[.val (.long vv), .second, .val (.long w1), .second, .val (.long w2), .second, .val (.int atRaw), .val (.int nRaw), .val (.int at_), .val (.int n), .val (.ref b2), .unset, .unset] [(.int (32 : Int32)), (.long w1), (.int (4 : Int32)), (.ref b2)])) _
    refine XS.lushr X9.here hx rfl (hb hby at_66) rfl ?_
    show Steps p.tables e below (T9.setTop (mkF m 67 #[.val (.long vv), .second, .val (.long w1), .second, .val (.long w2), .second, .val (.int atRaw), .val (.int nRaw), .val (.int at_), .val (.int n), .val (.ref b2), .unset, .unset] [(.long ((w1.toUInt64 >>> ((32 : Int32) &&& 0x3f).toInt64.toUInt64).toInt64)), (.int (4 : Int32)), (.ref b2)])) _
    refine XS.l2i X9.here hx rfl (hb hby at_67) rfl ?_
    show Steps p.tables e below (T9.setTop (mkF m 68 #[.val (.long vv), .second, .val (.long w1), .second, .val (.long w2), .second, .val (.int atRaw), .val (.int nRaw), .val (.int at_), .val (.int n), .val (.ref b2), .unset, .unset] [(.int (((w1.toUInt64 >>> ((32 : Int32) &&& 0x3f).toInt64.toUInt64).toInt64).toInt32)), (.int (4 : Int32)), (.ref b2)])) _
    refine XS.i2b X9.here hx rfl (hb hby at_68) rfl ?_
    show Steps p.tables e below (T9.setTop (mkF m 69 #[.val (.long vv), .second, .val (.long w1), .second, .val (.long w2), .second, .val (.int atRaw), .val (.int nRaw), .val (.int at_), .val (.int n), .val (.ref b2), .unset, .unset] [(.int ((((w1.toUInt64 >>> ((32 : Int32) &&& 0x3f).toInt64.toUInt64).toInt64).toInt32).toInt8.toInt32)), (.int (4 : Int32)), (.ref b2)])) _
    refine st11 _ ?_
    exact k
  obtain ⟨c5, Ar5, Sz5, Hc5⟩ := B5
  have hin5 : ¬ ((5 : Int32) < 0 ∨ c5.slots.size ≤ ((5 : Int32)).toNatClampNeg) := by rw [Sz5]; decide
  obtain ⟨T13, h13, X13, e13, W13, st13⟩ := stB X11 hx hZ e11 Ar5 (j := (5 : Int32)) hin5 (g := (mkF m 79 #[.val (.long vv), .second, .val (.long w1), .second, .val (.long w2), .second, .val (.int atRaw), .val (.int nRaw), .val (.int at_), .val (.int n), .val (.ref b2), .unset, .unset] [(.int ((((w1.toUInt64 >>> ((40 : Int32) &&& 0x3f).toInt64.toUInt64).toInt64).toInt32).toInt8.toInt32)), (.int (5 : Int32)), (.ref b2)])) rfl rfl (hb hby at_79)
  obtain ⟨LL13, X13, N13⟩ := own_loc X13 (Fr.snoc X13 N11 g0b)
  obtain ⟨f6, B6⟩ : ∃ f, own_BA Z h13 b2 f := ⟨_, own_wr Ar5 Sz5 Hc5 W13⟩
  have S6 : n0 ≤ h13.size := Nat.le_trans S5 (Keep.of_wr W13).1
  have pre14 : ∀ t, Steps p.tables e below (T13.setTop (mkF m 80 #[.val (.long vv), .second, .val (.long w1), .second, .val (.long w2), .second, .val (.int atRaw), .val (.int nRaw), .val (.int at_), .val (.int n), .val (.ref b2), .unset, .unset] [])) t → Steps p.tables e below (s₁.setTop (entryFrame m #[(.long vv), (.long w1), (.long w2), (.int atRaw), (.int nRaw)] maxLocals)) t := by
    intro t k
    refine pre12 t ?_
    show Steps p.tables e below (T11.setTop (mkF m 70 #[.val (.long vv), .second, .val (.long w1), .second, .val (.long w2), .second, .val (.int atRaw), .val (.int nRaw), .val (.int at_), .val (.int n), .val (.ref b2), .unset, .unset] [])) _
    refine XS.aload X11.here hx rfl (hb hby at_70) rfl rfl ?_
    show Steps p.tables e below (T11.setTop (mkF m 72 #[.val (.long vv), .second, .val (.long w1), .second, .val (.long w2), .second, .val (.int atRaw), .val (.int nRaw), .val (.int at_), .val (.int n), .val (.ref b2), .unset, .unset] [(.ref b2)])) _
    refine XS.iconst X11.here hx rfl (hb hby at_72) ?_
    show Steps p.tables e below (T11.setTop (mkF m 73 #[.val (.long vv), .second, .val (.long w1), .second, .val (.long w2), .second, .val (.int atRaw), .val (.int nRaw), .val (.int at_), .val (.int n), .val (.ref b2), .unset, .unset] [(.int (5 : Int32)), (.ref b2)])) _
    refine XS.lloadN X11.here hx rfl (hb hby at_73) rfl ?_
    show Steps p.tables e below (T11.setTop (mkF m 74 #[.val (.long vv), .second, .val (.long w1), .second, .val (.long w2), .second, .val (.int atRaw), .val (.int nRaw), .val (.int at_), .val (.int n), .val (.ref b2), .unset, .unset] [(.long w1), (.int (5 : Int32)), (.ref b2)])) _
    refine XS.bipush X11.here hx rfl (hb hby at_74) ?_
    show Steps p.tables e below (T11.setTop (mkF m 76 #[.val (.long vv), .second, .val (.long w1), .second, .val (.long w2), .second, .val (.int atRaw), .val (.int nRaw), .val (.int at_), .val (.int n), .val (.ref b2), .unset, .unset] [(.int (40 : Int32)), (.long w1), (.int (5 : Int32)), (.ref b2)])) _
    refine XS.lushr X11.here hx rfl (hb hby at_76) rfl ?_
    show Steps p.tables e below (T11.setTop (mkF m 77 #[.val (.long vv), .second, .val (.long w1), .second, .val (.long w2), .second, .val (.int atRaw), .val (.int nRaw), .val (.int at_), .val (.int n), .val (.ref b2), .unset, .unset] [(.long ((w1.toUInt64 >>> ((40 : Int32) &&& 0x3f).toInt64.toUInt64).toInt64)), (.int (5 : Int32)), (.ref b2)])) _
    refine XS.l2i X11.here hx rfl (hb hby at_77) rfl ?_
    show Steps p.tables e below (T11.setTop (mkF m 78 #[.val (.long vv), .second, .val (.long w1), .second, .val (.long w2), .second, .val (.int atRaw), .val (.int nRaw), .val (.int at_), .val (.int n), .val (.ref b2), .unset, .unset] [(.int (((w1.toUInt64 >>> ((40 : Int32) &&& 0x3f).toInt64.toUInt64).toInt64).toInt32)), (.int (5 : Int32)), (.ref b2)])) _
    refine XS.i2b X11.here hx rfl (hb hby at_78) rfl ?_
    show Steps p.tables e below (T11.setTop (mkF m 79 #[.val (.long vv), .second, .val (.long w1), .second, .val (.long w2), .second, .val (.int atRaw), .val (.int nRaw), .val (.int at_), .val (.int n), .val (.ref b2), .unset, .unset] [(.int ((((w1.toUInt64 >>> ((40 : Int32) &&& 0x3f).toInt64.toUInt64).toInt64).toInt32).toInt8.toInt32)), (.int (5 : Int32)), (.ref b2)])) _
    refine st13 _ ?_
    exact k
  obtain ⟨c6, Ar6, Sz6, Hc6⟩ := B6
  have hin6 : ¬ ((6 : Int32) < 0 ∨ c6.slots.size ≤ ((6 : Int32)).toNatClampNeg) := by rw [Sz6]; decide
  obtain ⟨T15, h15, X15, e15, W15, st15⟩ := stB X13 hx hZ e13 Ar6 (j := (6 : Int32)) hin6 (g := (mkF m 90 #[.val (.long vv), .second, .val (.long w1), .second, .val (.long w2), .second, .val (.int atRaw), .val (.int nRaw), .val (.int at_), .val (.int n), .val (.ref b2), .unset, .unset] [(.int ((((w1.toUInt64 >>> ((48 : Int32) &&& 0x3f).toInt64.toUInt64).toInt64).toInt32).toInt8.toInt32)), (.int (6 : Int32)), (.ref b2)])) rfl rfl (hb hby at_90)
  obtain ⟨LL15, X15, N15⟩ := own_loc X15 (Fr.snoc X15 N13 g0b)
  obtain ⟨f7, B7⟩ : ∃ f, own_BA Z h15 b2 f := ⟨_, own_wr Ar6 Sz6 Hc6 W15⟩
  have S7 : n0 ≤ h15.size := Nat.le_trans S6 (Keep.of_wr W15).1
  have pre16 : ∀ t, Steps p.tables e below (T15.setTop (mkF m 91 #[.val (.long vv), .second, .val (.long w1), .second, .val (.long w2), .second, .val (.int atRaw), .val (.int nRaw), .val (.int at_), .val (.int n), .val (.ref b2), .unset, .unset] [])) t → Steps p.tables e below (s₁.setTop (entryFrame m #[(.long vv), (.long w1), (.long w2), (.int atRaw), (.int nRaw)] maxLocals)) t := by
    intro t k
    refine pre14 t ?_
    show Steps p.tables e below (T13.setTop (mkF m 80 #[.val (.long vv), .second, .val (.long w1), .second, .val (.long w2), .second, .val (.int atRaw), .val (.int nRaw), .val (.int at_), .val (.int n), .val (.ref b2), .unset, .unset] [])) _
    refine XS.aload X13.here hx rfl (hb hby at_80) rfl rfl ?_
    show Steps p.tables e below (T13.setTop (mkF m 82 #[.val (.long vv), .second, .val (.long w1), .second, .val (.long w2), .second, .val (.int atRaw), .val (.int nRaw), .val (.int at_), .val (.int n), .val (.ref b2), .unset, .unset] [(.ref b2)])) _
    refine XS.bipush X13.here hx rfl (hb hby at_82) ?_
    show Steps p.tables e below (T13.setTop (mkF m 84 #[.val (.long vv), .second, .val (.long w1), .second, .val (.long w2), .second, .val (.int atRaw), .val (.int nRaw), .val (.int at_), .val (.int n), .val (.ref b2), .unset, .unset] [(.int (6 : Int32)), (.ref b2)])) _
    refine XS.lloadN X13.here hx rfl (hb hby at_84) rfl ?_
    show Steps p.tables e below (T13.setTop (mkF m 85 #[.val (.long vv), .second, .val (.long w1), .second, .val (.long w2), .second, .val (.int atRaw), .val (.int nRaw), .val (.int at_), .val (.int n), .val (.ref b2), .unset, .unset] [(.long w1), (.int (6 : Int32)), (.ref b2)])) _
    refine XS.bipush X13.here hx rfl (hb hby at_85) ?_
    show Steps p.tables e below (T13.setTop (mkF m 87 #[.val (.long vv), .second, .val (.long w1), .second, .val (.long w2), .second, .val (.int atRaw), .val (.int nRaw), .val (.int at_), .val (.int n), .val (.ref b2), .unset, .unset] [(.int (48 : Int32)), (.long w1), (.int (6 : Int32)), (.ref b2)])) _
    refine XS.lushr X13.here hx rfl (hb hby at_87) rfl ?_
    show Steps p.tables e below (T13.setTop (mkF m 88 #[.val (.long vv), .second, .val (.long w1), .second, .val (.long w2), .second, .val (.int atRaw), .val (.int nRaw), .val (.int at_), .val (.int n), .val (.ref b2), .unset, .unset] [(.long ((w1.toUInt64 >>> ((48 : Int32) &&& 0x3f).toInt64.toUInt64).toInt64)), (.int (6 : Int32)), (.ref b2)])) _
    refine XS.l2i X13.here hx rfl (hb hby at_88) rfl ?_
    show Steps p.tables e below (T13.setTop (mkF m 89 #[.val (.long vv), .second, .val (.long w1), .second, .val (.long w2), .second, .val (.int atRaw), .val (.int nRaw), .val (.int at_), .val (.int n), .val (.ref b2), .unset, .unset] [(.int (((w1.toUInt64 >>> ((48 : Int32) &&& 0x3f).toInt64.toUInt64).toInt64).toInt32)), (.int (6 : Int32)), (.ref b2)])) _
    refine XS.i2b X13.here hx rfl (hb hby at_89) rfl ?_
    show Steps p.tables e below (T13.setTop (mkF m 90 #[.val (.long vv), .second, .val (.long w1), .second, .val (.long w2), .second, .val (.int atRaw), .val (.int nRaw), .val (.int at_), .val (.int n), .val (.ref b2), .unset, .unset] [(.int ((((w1.toUInt64 >>> ((48 : Int32) &&& 0x3f).toInt64.toUInt64).toInt64).toInt32).toInt8.toInt32)), (.int (6 : Int32)), (.ref b2)])) _
    refine st15 _ ?_
    exact k
  obtain ⟨c7, Ar7, Sz7, Hc7⟩ := B7
  have hin7 : ¬ ((7 : Int32) < 0 ∨ c7.slots.size ≤ ((7 : Int32)).toNatClampNeg) := by rw [Sz7]; decide
  obtain ⟨T17, h17, X17, e17, W17, st17⟩ := stB X15 hx hZ e15 Ar7 (j := (7 : Int32)) hin7 (g := (mkF m 101 #[.val (.long vv), .second, .val (.long w1), .second, .val (.long w2), .second, .val (.int atRaw), .val (.int nRaw), .val (.int at_), .val (.int n), .val (.ref b2), .unset, .unset] [(.int ((((w1.toUInt64 >>> ((56 : Int32) &&& 0x3f).toInt64.toUInt64).toInt64).toInt32).toInt8.toInt32)), (.int (7 : Int32)), (.ref b2)])) rfl rfl (hb hby at_101)
  obtain ⟨LL17, X17, N17⟩ := own_loc X17 (Fr.snoc X17 N15 g0b)
  obtain ⟨f8, B8⟩ : ∃ f, own_BA Z h17 b2 f := ⟨_, own_wr Ar7 Sz7 Hc7 W17⟩
  have S8 : n0 ≤ h17.size := Nat.le_trans S7 (Keep.of_wr W17).1
  have pre18 : ∀ t, Steps p.tables e below (T17.setTop (mkF m 102 #[.val (.long vv), .second, .val (.long w1), .second, .val (.long w2), .second, .val (.int atRaw), .val (.int nRaw), .val (.int at_), .val (.int n), .val (.ref b2), .unset, .unset] [])) t → Steps p.tables e below (s₁.setTop (entryFrame m #[(.long vv), (.long w1), (.long w2), (.int atRaw), (.int nRaw)] maxLocals)) t := by
    intro t k
    refine pre16 t ?_
    show Steps p.tables e below (T15.setTop (mkF m 91 #[.val (.long vv), .second, .val (.long w1), .second, .val (.long w2), .second, .val (.int atRaw), .val (.int nRaw), .val (.int at_), .val (.int n), .val (.ref b2), .unset, .unset] [])) _
    refine XS.aload X15.here hx rfl (hb hby at_91) rfl rfl ?_
    show Steps p.tables e below (T15.setTop (mkF m 93 #[.val (.long vv), .second, .val (.long w1), .second, .val (.long w2), .second, .val (.int atRaw), .val (.int nRaw), .val (.int at_), .val (.int n), .val (.ref b2), .unset, .unset] [(.ref b2)])) _
    refine XS.bipush X15.here hx rfl (hb hby at_93) ?_
    show Steps p.tables e below (T15.setTop (mkF m 95 #[.val (.long vv), .second, .val (.long w1), .second, .val (.long w2), .second, .val (.int atRaw), .val (.int nRaw), .val (.int at_), .val (.int n), .val (.ref b2), .unset, .unset] [(.int (7 : Int32)), (.ref b2)])) _
    refine XS.lloadN X15.here hx rfl (hb hby at_95) rfl ?_
    show Steps p.tables e below (T15.setTop (mkF m 96 #[.val (.long vv), .second, .val (.long w1), .second, .val (.long w2), .second, .val (.int atRaw), .val (.int nRaw), .val (.int at_), .val (.int n), .val (.ref b2), .unset, .unset] [(.long w1), (.int (7 : Int32)), (.ref b2)])) _
    refine XS.bipush X15.here hx rfl (hb hby at_96) ?_
    show Steps p.tables e below (T15.setTop (mkF m 98 #[.val (.long vv), .second, .val (.long w1), .second, .val (.long w2), .second, .val (.int atRaw), .val (.int nRaw), .val (.int at_), .val (.int n), .val (.ref b2), .unset, .unset] [(.int (56 : Int32)), (.long w1), (.int (7 : Int32)), (.ref b2)])) _
    refine XS.lushr X15.here hx rfl (hb hby at_98) rfl ?_
    show Steps p.tables e below (T15.setTop (mkF m 99 #[.val (.long vv), .second, .val (.long w1), .second, .val (.long w2), .second, .val (.int atRaw), .val (.int nRaw), .val (.int at_), .val (.int n), .val (.ref b2), .unset, .unset] [(.long ((w1.toUInt64 >>> ((56 : Int32) &&& 0x3f).toInt64.toUInt64).toInt64)), (.int (7 : Int32)), (.ref b2)])) _
    refine XS.l2i X15.here hx rfl (hb hby at_99) rfl ?_
    show Steps p.tables e below (T15.setTop (mkF m 100 #[.val (.long vv), .second, .val (.long w1), .second, .val (.long w2), .second, .val (.int atRaw), .val (.int nRaw), .val (.int at_), .val (.int n), .val (.ref b2), .unset, .unset] [(.int (((w1.toUInt64 >>> ((56 : Int32) &&& 0x3f).toInt64.toUInt64).toInt64).toInt32)), (.int (7 : Int32)), (.ref b2)])) _
    refine XS.i2b X15.here hx rfl (hb hby at_100) rfl ?_
    show Steps p.tables e below (T15.setTop (mkF m 101 #[.val (.long vv), .second, .val (.long w1), .second, .val (.long w2), .second, .val (.int atRaw), .val (.int nRaw), .val (.int at_), .val (.int n), .val (.ref b2), .unset, .unset] [(.int ((((w1.toUInt64 >>> ((56 : Int32) &&& 0x3f).toInt64.toUInt64).toInt64).toInt32).toInt8.toInt32)), (.int (7 : Int32)), (.ref b2)])) _
    refine st17 _ ?_
    exact k
  obtain ⟨c8, Ar8, Sz8, Hc8⟩ := B8
  have hin8 : ¬ ((8 : Int32) < 0 ∨ c8.slots.size ≤ ((8 : Int32)).toNatClampNeg) := by rw [Sz8]; decide
  obtain ⟨T19, h19, X19, e19, W19, st19⟩ := stB X17 hx hZ e17 Ar8 (j := (8 : Int32)) hin8 (g := (mkF m 110 #[.val (.long vv), .second, .val (.long w1), .second, .val (.long w2), .second, .val (.int atRaw), .val (.int nRaw), .val (.int at_), .val (.int n), .val (.ref b2), .unset, .unset] [(.int ((w2.toInt32).toInt8.toInt32)), (.int (8 : Int32)), (.ref b2)])) rfl rfl (hb hby at_110)
  obtain ⟨LL19, X19, N19⟩ := own_loc X19 (Fr.snoc X19 N17 g0b)
  obtain ⟨f9, B9⟩ : ∃ f, own_BA Z h19 b2 f := ⟨_, own_wr Ar8 Sz8 Hc8 W19⟩
  have S9 : n0 ≤ h19.size := Nat.le_trans S8 (Keep.of_wr W19).1
  have pre20 : ∀ t, Steps p.tables e below (T19.setTop (mkF m 111 #[.val (.long vv), .second, .val (.long w1), .second, .val (.long w2), .second, .val (.int atRaw), .val (.int nRaw), .val (.int at_), .val (.int n), .val (.ref b2), .unset, .unset] [])) t → Steps p.tables e below (s₁.setTop (entryFrame m #[(.long vv), (.long w1), (.long w2), (.int atRaw), (.int nRaw)] maxLocals)) t := by
    intro t k
    refine pre18 t ?_
    show Steps p.tables e below (T17.setTop (mkF m 102 #[.val (.long vv), .second, .val (.long w1), .second, .val (.long w2), .second, .val (.int atRaw), .val (.int nRaw), .val (.int at_), .val (.int n), .val (.ref b2), .unset, .unset] [])) _
    refine XS.aload X17.here hx rfl (hb hby at_102) rfl rfl ?_
    show Steps p.tables e below (T17.setTop (mkF m 104 #[.val (.long vv), .second, .val (.long w1), .second, .val (.long w2), .second, .val (.int atRaw), .val (.int nRaw), .val (.int at_), .val (.int n), .val (.ref b2), .unset, .unset] [(.ref b2)])) _
    refine XS.bipush X17.here hx rfl (hb hby at_104) ?_
    show Steps p.tables e below (T17.setTop (mkF m 106 #[.val (.long vv), .second, .val (.long w1), .second, .val (.long w2), .second, .val (.int atRaw), .val (.int nRaw), .val (.int at_), .val (.int n), .val (.ref b2), .unset, .unset] [(.int (8 : Int32)), (.ref b2)])) _
    refine XS.lload X17.here hx rfl (hb hby at_106) rfl ?_
    show Steps p.tables e below (T17.setTop (mkF m 108 #[.val (.long vv), .second, .val (.long w1), .second, .val (.long w2), .second, .val (.int atRaw), .val (.int nRaw), .val (.int at_), .val (.int n), .val (.ref b2), .unset, .unset] [(.long w2), (.int (8 : Int32)), (.ref b2)])) _
    refine XS.l2i X17.here hx rfl (hb hby at_108) rfl ?_
    show Steps p.tables e below (T17.setTop (mkF m 109 #[.val (.long vv), .second, .val (.long w1), .second, .val (.long w2), .second, .val (.int atRaw), .val (.int nRaw), .val (.int at_), .val (.int n), .val (.ref b2), .unset, .unset] [(.int (w2.toInt32)), (.int (8 : Int32)), (.ref b2)])) _
    refine XS.i2b X17.here hx rfl (hb hby at_109) rfl ?_
    show Steps p.tables e below (T17.setTop (mkF m 110 #[.val (.long vv), .second, .val (.long w1), .second, .val (.long w2), .second, .val (.int atRaw), .val (.int nRaw), .val (.int at_), .val (.int n), .val (.ref b2), .unset, .unset] [(.int ((w2.toInt32).toInt8.toInt32)), (.int (8 : Int32)), (.ref b2)])) _
    refine st19 _ ?_
    exact k
  obtain ⟨c9, Ar9, Sz9, Hc9⟩ := B9
  have hin9 : ¬ ((9 : Int32) < 0 ∨ c9.slots.size ≤ ((9 : Int32)).toNatClampNeg) := by rw [Sz9]; decide
  obtain ⟨T21, h21, X21, e21, W21, st21⟩ := stB X19 hx hZ e19 Ar9 (j := (9 : Int32)) hin9 (g := (mkF m 122 #[.val (.long vv), .second, .val (.long w1), .second, .val (.long w2), .second, .val (.int atRaw), .val (.int nRaw), .val (.int at_), .val (.int n), .val (.ref b2), .unset, .unset] [(.int ((((w2.toUInt64 >>> ((8 : Int32) &&& 0x3f).toInt64.toUInt64).toInt64).toInt32).toInt8.toInt32)), (.int (9 : Int32)), (.ref b2)])) rfl rfl (hb hby at_122)
  obtain ⟨LL21, X21, N21⟩ := own_loc X21 (Fr.snoc X21 N19 g0b)
  obtain ⟨f10, B10⟩ : ∃ f, own_BA Z h21 b2 f := ⟨_, own_wr Ar9 Sz9 Hc9 W21⟩
  have S10 : n0 ≤ h21.size := Nat.le_trans S9 (Keep.of_wr W21).1
  have pre22 : ∀ t, Steps p.tables e below (T21.setTop (mkF m 123 #[.val (.long vv), .second, .val (.long w1), .second, .val (.long w2), .second, .val (.int atRaw), .val (.int nRaw), .val (.int at_), .val (.int n), .val (.ref b2), .unset, .unset] [])) t → Steps p.tables e below (s₁.setTop (entryFrame m #[(.long vv), (.long w1), (.long w2), (.int atRaw), (.int nRaw)] maxLocals)) t := by
    intro t k
    refine pre20 t ?_
    show Steps p.tables e below (T19.setTop (mkF m 111 #[.val (.long vv), .second, .val (.long w1), .second, .val (.long w2), .second, .val (.int atRaw), .val (.int nRaw), .val (.int at_), .val (.int n), .val (.ref b2), .unset, .unset] [])) _
    refine XS.aload X19.here hx rfl (hb hby at_111) rfl rfl ?_
    show Steps p.tables e below (T19.setTop (mkF m 113 #[.val (.long vv), .second, .val (.long w1), .second, .val (.long w2), .second, .val (.int atRaw), .val (.int nRaw), .val (.int at_), .val (.int n), .val (.ref b2), .unset, .unset] [(.ref b2)])) _
    refine XS.bipush X19.here hx rfl (hb hby at_113) ?_
    show Steps p.tables e below (T19.setTop (mkF m 115 #[.val (.long vv), .second, .val (.long w1), .second, .val (.long w2), .second, .val (.int atRaw), .val (.int nRaw), .val (.int at_), .val (.int n), .val (.ref b2), .unset, .unset] [(.int (9 : Int32)), (.ref b2)])) _
    refine XS.lload X19.here hx rfl (hb hby at_115) rfl ?_
    show Steps p.tables e below (T19.setTop (mkF m 117 #[.val (.long vv), .second, .val (.long w1), .second, .val (.long w2), .second, .val (.int atRaw), .val (.int nRaw), .val (.int at_), .val (.int n), .val (.ref b2), .unset, .unset] [(.long w2), (.int (9 : Int32)), (.ref b2)])) _
    refine XS.bipush X19.here hx rfl (hb hby at_117) ?_
    show Steps p.tables e below (T19.setTop (mkF m 119 #[.val (.long vv), .second, .val (.long w1), .second, .val (.long w2), .second, .val (.int atRaw), .val (.int nRaw), .val (.int at_), .val (.int n), .val (.ref b2), .unset, .unset] [(.int (8 : Int32)), (.long w2), (.int (9 : Int32)), (.ref b2)])) _
    refine XS.lushr X19.here hx rfl (hb hby at_119) rfl ?_
    show Steps p.tables e below (T19.setTop (mkF m 120 #[.val (.long vv), .second, .val (.long w1), .second, .val (.long w2), .second, .val (.int atRaw), .val (.int nRaw), .val (.int at_), .val (.int n), .val (.ref b2), .unset, .unset] [(.long ((w2.toUInt64 >>> ((8 : Int32) &&& 0x3f).toInt64.toUInt64).toInt64)), (.int (9 : Int32)), (.ref b2)])) _
    refine XS.l2i X19.here hx rfl (hb hby at_120) rfl ?_
    show Steps p.tables e below (T19.setTop (mkF m 121 #[.val (.long vv), .second, .val (.long w1), .second, .val (.long w2), .second, .val (.int atRaw), .val (.int nRaw), .val (.int at_), .val (.int n), .val (.ref b2), .unset, .unset] [(.int (((w2.toUInt64 >>> ((8 : Int32) &&& 0x3f).toInt64.toUInt64).toInt64).toInt32)), (.int (9 : Int32)), (.ref b2)])) _
    refine XS.i2b X19.here hx rfl (hb hby at_121) rfl ?_
    show Steps p.tables e below (T19.setTop (mkF m 122 #[.val (.long vv), .second, .val (.long w1), .second, .val (.long w2), .second, .val (.int atRaw), .val (.int nRaw), .val (.int at_), .val (.int n), .val (.ref b2), .unset, .unset] [(.int ((((w2.toUInt64 >>> ((8 : Int32) &&& 0x3f).toInt64.toUInt64).toInt64).toInt32).toInt8.toInt32)), (.int (9 : Int32)), (.ref b2)])) _
    refine st21 _ ?_
    exact k
  obtain ⟨c10, Ar10, Sz10, Hc10⟩ := B10
  have hin10 : ¬ ((10 : Int32) < 0 ∨ c10.slots.size ≤ ((10 : Int32)).toNatClampNeg) := by rw [Sz10]; decide
  obtain ⟨T23, h23, X23, e23, W23, st23⟩ := stB X21 hx hZ e21 Ar10 (j := (10 : Int32)) hin10 (g := (mkF m 134 #[.val (.long vv), .second, .val (.long w1), .second, .val (.long w2), .second, .val (.int atRaw), .val (.int nRaw), .val (.int at_), .val (.int n), .val (.ref b2), .unset, .unset] [(.int ((((w2.toUInt64 >>> ((16 : Int32) &&& 0x3f).toInt64.toUInt64).toInt64).toInt32).toInt8.toInt32)), (.int (10 : Int32)), (.ref b2)])) rfl rfl (hb hby at_134)
  obtain ⟨LL23, X23, N23⟩ := own_loc X23 (Fr.snoc X23 N21 g0b)
  obtain ⟨f11, B11⟩ : ∃ f, own_BA Z h23 b2 f := ⟨_, own_wr Ar10 Sz10 Hc10 W23⟩
  have S11 : n0 ≤ h23.size := Nat.le_trans S10 (Keep.of_wr W23).1
  have pre24 : ∀ t, Steps p.tables e below (T23.setTop (mkF m 135 #[.val (.long vv), .second, .val (.long w1), .second, .val (.long w2), .second, .val (.int atRaw), .val (.int nRaw), .val (.int at_), .val (.int n), .val (.ref b2), .unset, .unset] [])) t → Steps p.tables e below (s₁.setTop (entryFrame m #[(.long vv), (.long w1), (.long w2), (.int atRaw), (.int nRaw)] maxLocals)) t := by
    intro t k
    refine pre22 t ?_
    show Steps p.tables e below (T21.setTop (mkF m 123 #[.val (.long vv), .second, .val (.long w1), .second, .val (.long w2), .second, .val (.int atRaw), .val (.int nRaw), .val (.int at_), .val (.int n), .val (.ref b2), .unset, .unset] [])) _
    refine XS.aload X21.here hx rfl (hb hby at_123) rfl rfl ?_
    show Steps p.tables e below (T21.setTop (mkF m 125 #[.val (.long vv), .second, .val (.long w1), .second, .val (.long w2), .second, .val (.int atRaw), .val (.int nRaw), .val (.int at_), .val (.int n), .val (.ref b2), .unset, .unset] [(.ref b2)])) _
    refine XS.bipush X21.here hx rfl (hb hby at_125) ?_
    show Steps p.tables e below (T21.setTop (mkF m 127 #[.val (.long vv), .second, .val (.long w1), .second, .val (.long w2), .second, .val (.int atRaw), .val (.int nRaw), .val (.int at_), .val (.int n), .val (.ref b2), .unset, .unset] [(.int (10 : Int32)), (.ref b2)])) _
    refine XS.lload X21.here hx rfl (hb hby at_127) rfl ?_
    show Steps p.tables e below (T21.setTop (mkF m 129 #[.val (.long vv), .second, .val (.long w1), .second, .val (.long w2), .second, .val (.int atRaw), .val (.int nRaw), .val (.int at_), .val (.int n), .val (.ref b2), .unset, .unset] [(.long w2), (.int (10 : Int32)), (.ref b2)])) _
    refine XS.bipush X21.here hx rfl (hb hby at_129) ?_
    show Steps p.tables e below (T21.setTop (mkF m 131 #[.val (.long vv), .second, .val (.long w1), .second, .val (.long w2), .second, .val (.int atRaw), .val (.int nRaw), .val (.int at_), .val (.int n), .val (.ref b2), .unset, .unset] [(.int (16 : Int32)), (.long w2), (.int (10 : Int32)), (.ref b2)])) _
    refine XS.lushr X21.here hx rfl (hb hby at_131) rfl ?_
    show Steps p.tables e below (T21.setTop (mkF m 132 #[.val (.long vv), .second, .val (.long w1), .second, .val (.long w2), .second, .val (.int atRaw), .val (.int nRaw), .val (.int at_), .val (.int n), .val (.ref b2), .unset, .unset] [(.long ((w2.toUInt64 >>> ((16 : Int32) &&& 0x3f).toInt64.toUInt64).toInt64)), (.int (10 : Int32)), (.ref b2)])) _
    refine XS.l2i X21.here hx rfl (hb hby at_132) rfl ?_
    show Steps p.tables e below (T21.setTop (mkF m 133 #[.val (.long vv), .second, .val (.long w1), .second, .val (.long w2), .second, .val (.int atRaw), .val (.int nRaw), .val (.int at_), .val (.int n), .val (.ref b2), .unset, .unset] [(.int (((w2.toUInt64 >>> ((16 : Int32) &&& 0x3f).toInt64.toUInt64).toInt64).toInt32)), (.int (10 : Int32)), (.ref b2)])) _
    refine XS.i2b X21.here hx rfl (hb hby at_133) rfl ?_
    show Steps p.tables e below (T21.setTop (mkF m 134 #[.val (.long vv), .second, .val (.long w1), .second, .val (.long w2), .second, .val (.int atRaw), .val (.int nRaw), .val (.int at_), .val (.int n), .val (.ref b2), .unset, .unset] [(.int ((((w2.toUInt64 >>> ((16 : Int32) &&& 0x3f).toInt64.toUInt64).toInt64).toInt32).toInt8.toInt32)), (.int (10 : Int32)), (.ref b2)])) _
    refine st23 _ ?_
    exact k
  obtain ⟨c11, Ar11, Sz11, Hc11⟩ := B11
  have hin11 : ¬ ((11 : Int32) < 0 ∨ c11.slots.size ≤ ((11 : Int32)).toNatClampNeg) := by rw [Sz11]; decide
  obtain ⟨T25, h25, X25, e25, W25, st25⟩ := stB X23 hx hZ e23 Ar11 (j := (11 : Int32)) hin11 (g := (mkF m 146 #[.val (.long vv), .second, .val (.long w1), .second, .val (.long w2), .second, .val (.int atRaw), .val (.int nRaw), .val (.int at_), .val (.int n), .val (.ref b2), .unset, .unset] [(.int ((((w2.toUInt64 >>> ((24 : Int32) &&& 0x3f).toInt64.toUInt64).toInt64).toInt32).toInt8.toInt32)), (.int (11 : Int32)), (.ref b2)])) rfl rfl (hb hby at_146)
  obtain ⟨LL25, X25, N25⟩ := own_loc X25 (Fr.snoc X25 N23 g0b)
  obtain ⟨f12, B12⟩ : ∃ f, own_BA Z h25 b2 f := ⟨_, own_wr Ar11 Sz11 Hc11 W25⟩
  have S12 : n0 ≤ h25.size := Nat.le_trans S11 (Keep.of_wr W25).1
  have pre26 : ∀ t, Steps p.tables e below (T25.setTop (mkF m 147 #[.val (.long vv), .second, .val (.long w1), .second, .val (.long w2), .second, .val (.int atRaw), .val (.int nRaw), .val (.int at_), .val (.int n), .val (.ref b2), .unset, .unset] [])) t → Steps p.tables e below (s₁.setTop (entryFrame m #[(.long vv), (.long w1), (.long w2), (.int atRaw), (.int nRaw)] maxLocals)) t := by
    intro t k
    refine pre24 t ?_
    show Steps p.tables e below (T23.setTop (mkF m 135 #[.val (.long vv), .second, .val (.long w1), .second, .val (.long w2), .second, .val (.int atRaw), .val (.int nRaw), .val (.int at_), .val (.int n), .val (.ref b2), .unset, .unset] [])) _
    refine XS.aload X23.here hx rfl (hb hby at_135) rfl rfl ?_
    show Steps p.tables e below (T23.setTop (mkF m 137 #[.val (.long vv), .second, .val (.long w1), .second, .val (.long w2), .second, .val (.int atRaw), .val (.int nRaw), .val (.int at_), .val (.int n), .val (.ref b2), .unset, .unset] [(.ref b2)])) _
    refine XS.bipush X23.here hx rfl (hb hby at_137) ?_
    show Steps p.tables e below (T23.setTop (mkF m 139 #[.val (.long vv), .second, .val (.long w1), .second, .val (.long w2), .second, .val (.int atRaw), .val (.int nRaw), .val (.int at_), .val (.int n), .val (.ref b2), .unset, .unset] [(.int (11 : Int32)), (.ref b2)])) _
    refine XS.lload X23.here hx rfl (hb hby at_139) rfl ?_
    show Steps p.tables e below (T23.setTop (mkF m 141 #[.val (.long vv), .second, .val (.long w1), .second, .val (.long w2), .second, .val (.int atRaw), .val (.int nRaw), .val (.int at_), .val (.int n), .val (.ref b2), .unset, .unset] [(.long w2), (.int (11 : Int32)), (.ref b2)])) _
    refine XS.bipush X23.here hx rfl (hb hby at_141) ?_
    show Steps p.tables e below (T23.setTop (mkF m 143 #[.val (.long vv), .second, .val (.long w1), .second, .val (.long w2), .second, .val (.int atRaw), .val (.int nRaw), .val (.int at_), .val (.int n), .val (.ref b2), .unset, .unset] [(.int (24 : Int32)), (.long w2), (.int (11 : Int32)), (.ref b2)])) _
    refine XS.lushr X23.here hx rfl (hb hby at_143) rfl ?_
    show Steps p.tables e below (T23.setTop (mkF m 144 #[.val (.long vv), .second, .val (.long w1), .second, .val (.long w2), .second, .val (.int atRaw), .val (.int nRaw), .val (.int at_), .val (.int n), .val (.ref b2), .unset, .unset] [(.long ((w2.toUInt64 >>> ((24 : Int32) &&& 0x3f).toInt64.toUInt64).toInt64)), (.int (11 : Int32)), (.ref b2)])) _
    refine XS.l2i X23.here hx rfl (hb hby at_144) rfl ?_
    show Steps p.tables e below (T23.setTop (mkF m 145 #[.val (.long vv), .second, .val (.long w1), .second, .val (.long w2), .second, .val (.int atRaw), .val (.int nRaw), .val (.int at_), .val (.int n), .val (.ref b2), .unset, .unset] [(.int (((w2.toUInt64 >>> ((24 : Int32) &&& 0x3f).toInt64.toUInt64).toInt64).toInt32)), (.int (11 : Int32)), (.ref b2)])) _
    refine XS.i2b X23.here hx rfl (hb hby at_145) rfl ?_
    show Steps p.tables e below (T23.setTop (mkF m 146 #[.val (.long vv), .second, .val (.long w1), .second, .val (.long w2), .second, .val (.int atRaw), .val (.int nRaw), .val (.int at_), .val (.int n), .val (.ref b2), .unset, .unset] [(.int ((((w2.toUInt64 >>> ((24 : Int32) &&& 0x3f).toInt64.toUInt64).toInt64).toInt32).toInt8.toInt32)), (.int (11 : Int32)), (.ref b2)])) _
    refine st25 _ ?_
    exact k
  obtain ⟨c12, Ar12, Sz12, Hc12⟩ := B12
  have hin12 : ¬ ((12 : Int32) < 0 ∨ c12.slots.size ≤ ((12 : Int32)).toNatClampNeg) := by rw [Sz12]; decide
  obtain ⟨T27, h27, X27, e27, W27, st27⟩ := stB X25 hx hZ e25 Ar12 (j := (12 : Int32)) hin12 (g := (mkF m 158 #[.val (.long vv), .second, .val (.long w1), .second, .val (.long w2), .second, .val (.int atRaw), .val (.int nRaw), .val (.int at_), .val (.int n), .val (.ref b2), .unset, .unset] [(.int ((((w2.toUInt64 >>> ((32 : Int32) &&& 0x3f).toInt64.toUInt64).toInt64).toInt32).toInt8.toInt32)), (.int (12 : Int32)), (.ref b2)])) rfl rfl (hb hby at_158)
  obtain ⟨LL27, X27, N27⟩ := own_loc X27 (Fr.snoc X27 N25 g0b)
  obtain ⟨f13, B13⟩ : ∃ f, own_BA Z h27 b2 f := ⟨_, own_wr Ar12 Sz12 Hc12 W27⟩
  have S13 : n0 ≤ h27.size := Nat.le_trans S12 (Keep.of_wr W27).1
  have pre28 : ∀ t, Steps p.tables e below (T27.setTop (mkF m 159 #[.val (.long vv), .second, .val (.long w1), .second, .val (.long w2), .second, .val (.int atRaw), .val (.int nRaw), .val (.int at_), .val (.int n), .val (.ref b2), .unset, .unset] [])) t → Steps p.tables e below (s₁.setTop (entryFrame m #[(.long vv), (.long w1), (.long w2), (.int atRaw), (.int nRaw)] maxLocals)) t := by
    intro t k
    refine pre26 t ?_
    show Steps p.tables e below (T25.setTop (mkF m 147 #[.val (.long vv), .second, .val (.long w1), .second, .val (.long w2), .second, .val (.int atRaw), .val (.int nRaw), .val (.int at_), .val (.int n), .val (.ref b2), .unset, .unset] [])) _
    refine XS.aload X25.here hx rfl (hb hby at_147) rfl rfl ?_
    show Steps p.tables e below (T25.setTop (mkF m 149 #[.val (.long vv), .second, .val (.long w1), .second, .val (.long w2), .second, .val (.int atRaw), .val (.int nRaw), .val (.int at_), .val (.int n), .val (.ref b2), .unset, .unset] [(.ref b2)])) _
    refine XS.bipush X25.here hx rfl (hb hby at_149) ?_
    show Steps p.tables e below (T25.setTop (mkF m 151 #[.val (.long vv), .second, .val (.long w1), .second, .val (.long w2), .second, .val (.int atRaw), .val (.int nRaw), .val (.int at_), .val (.int n), .val (.ref b2), .unset, .unset] [(.int (12 : Int32)), (.ref b2)])) _
    refine XS.lload X25.here hx rfl (hb hby at_151) rfl ?_
    show Steps p.tables e below (T25.setTop (mkF m 153 #[.val (.long vv), .second, .val (.long w1), .second, .val (.long w2), .second, .val (.int atRaw), .val (.int nRaw), .val (.int at_), .val (.int n), .val (.ref b2), .unset, .unset] [(.long w2), (.int (12 : Int32)), (.ref b2)])) _
    refine XS.bipush X25.here hx rfl (hb hby at_153) ?_
    show Steps p.tables e below (T25.setTop (mkF m 155 #[.val (.long vv), .second, .val (.long w1), .second, .val (.long w2), .second, .val (.int atRaw), .val (.int nRaw), .val (.int at_), .val (.int n), .val (.ref b2), .unset, .unset] [(.int (32 : Int32)), (.long w2), (.int (12 : Int32)), (.ref b2)])) _
    refine XS.lushr X25.here hx rfl (hb hby at_155) rfl ?_
    show Steps p.tables e below (T25.setTop (mkF m 156 #[.val (.long vv), .second, .val (.long w1), .second, .val (.long w2), .second, .val (.int atRaw), .val (.int nRaw), .val (.int at_), .val (.int n), .val (.ref b2), .unset, .unset] [(.long ((w2.toUInt64 >>> ((32 : Int32) &&& 0x3f).toInt64.toUInt64).toInt64)), (.int (12 : Int32)), (.ref b2)])) _
    refine XS.l2i X25.here hx rfl (hb hby at_156) rfl ?_
    show Steps p.tables e below (T25.setTop (mkF m 157 #[.val (.long vv), .second, .val (.long w1), .second, .val (.long w2), .second, .val (.int atRaw), .val (.int nRaw), .val (.int at_), .val (.int n), .val (.ref b2), .unset, .unset] [(.int (((w2.toUInt64 >>> ((32 : Int32) &&& 0x3f).toInt64.toUInt64).toInt64).toInt32)), (.int (12 : Int32)), (.ref b2)])) _
    refine XS.i2b X25.here hx rfl (hb hby at_157) rfl ?_
    show Steps p.tables e below (T25.setTop (mkF m 158 #[.val (.long vv), .second, .val (.long w1), .second, .val (.long w2), .second, .val (.int atRaw), .val (.int nRaw), .val (.int at_), .val (.int n), .val (.ref b2), .unset, .unset] [(.int ((((w2.toUInt64 >>> ((32 : Int32) &&& 0x3f).toInt64.toUInt64).toInt64).toInt32).toInt8.toInt32)), (.int (12 : Int32)), (.ref b2)])) _
    refine st27 _ ?_
    exact k
  obtain ⟨c13, Ar13, Sz13, Hc13⟩ := B13
  have hin13 : ¬ ((13 : Int32) < 0 ∨ c13.slots.size ≤ ((13 : Int32)).toNatClampNeg) := by rw [Sz13]; decide
  obtain ⟨T29, h29, X29, e29, W29, st29⟩ := stB X27 hx hZ e27 Ar13 (j := (13 : Int32)) hin13 (g := (mkF m 170 #[.val (.long vv), .second, .val (.long w1), .second, .val (.long w2), .second, .val (.int atRaw), .val (.int nRaw), .val (.int at_), .val (.int n), .val (.ref b2), .unset, .unset] [(.int ((((w2.toUInt64 >>> ((40 : Int32) &&& 0x3f).toInt64.toUInt64).toInt64).toInt32).toInt8.toInt32)), (.int (13 : Int32)), (.ref b2)])) rfl rfl (hb hby at_170)
  obtain ⟨LL29, X29, N29⟩ := own_loc X29 (Fr.snoc X29 N27 g0b)
  obtain ⟨f14, B14⟩ : ∃ f, own_BA Z h29 b2 f := ⟨_, own_wr Ar13 Sz13 Hc13 W29⟩
  have S14 : n0 ≤ h29.size := Nat.le_trans S13 (Keep.of_wr W29).1
  have pre30 : ∀ t, Steps p.tables e below (T29.setTop (mkF m 171 #[.val (.long vv), .second, .val (.long w1), .second, .val (.long w2), .second, .val (.int atRaw), .val (.int nRaw), .val (.int at_), .val (.int n), .val (.ref b2), .unset, .unset] [])) t → Steps p.tables e below (s₁.setTop (entryFrame m #[(.long vv), (.long w1), (.long w2), (.int atRaw), (.int nRaw)] maxLocals)) t := by
    intro t k
    refine pre28 t ?_
    show Steps p.tables e below (T27.setTop (mkF m 159 #[.val (.long vv), .second, .val (.long w1), .second, .val (.long w2), .second, .val (.int atRaw), .val (.int nRaw), .val (.int at_), .val (.int n), .val (.ref b2), .unset, .unset] [])) _
    refine XS.aload X27.here hx rfl (hb hby at_159) rfl rfl ?_
    show Steps p.tables e below (T27.setTop (mkF m 161 #[.val (.long vv), .second, .val (.long w1), .second, .val (.long w2), .second, .val (.int atRaw), .val (.int nRaw), .val (.int at_), .val (.int n), .val (.ref b2), .unset, .unset] [(.ref b2)])) _
    refine XS.bipush X27.here hx rfl (hb hby at_161) ?_
    show Steps p.tables e below (T27.setTop (mkF m 163 #[.val (.long vv), .second, .val (.long w1), .second, .val (.long w2), .second, .val (.int atRaw), .val (.int nRaw), .val (.int at_), .val (.int n), .val (.ref b2), .unset, .unset] [(.int (13 : Int32)), (.ref b2)])) _
    refine XS.lload X27.here hx rfl (hb hby at_163) rfl ?_
    show Steps p.tables e below (T27.setTop (mkF m 165 #[.val (.long vv), .second, .val (.long w1), .second, .val (.long w2), .second, .val (.int atRaw), .val (.int nRaw), .val (.int at_), .val (.int n), .val (.ref b2), .unset, .unset] [(.long w2), (.int (13 : Int32)), (.ref b2)])) _
    refine XS.bipush X27.here hx rfl (hb hby at_165) ?_
    show Steps p.tables e below (T27.setTop (mkF m 167 #[.val (.long vv), .second, .val (.long w1), .second, .val (.long w2), .second, .val (.int atRaw), .val (.int nRaw), .val (.int at_), .val (.int n), .val (.ref b2), .unset, .unset] [(.int (40 : Int32)), (.long w2), (.int (13 : Int32)), (.ref b2)])) _
    refine XS.lushr X27.here hx rfl (hb hby at_167) rfl ?_
    show Steps p.tables e below (T27.setTop (mkF m 168 #[.val (.long vv), .second, .val (.long w1), .second, .val (.long w2), .second, .val (.int atRaw), .val (.int nRaw), .val (.int at_), .val (.int n), .val (.ref b2), .unset, .unset] [(.long ((w2.toUInt64 >>> ((40 : Int32) &&& 0x3f).toInt64.toUInt64).toInt64)), (.int (13 : Int32)), (.ref b2)])) _
    refine XS.l2i X27.here hx rfl (hb hby at_168) rfl ?_
    show Steps p.tables e below (T27.setTop (mkF m 169 #[.val (.long vv), .second, .val (.long w1), .second, .val (.long w2), .second, .val (.int atRaw), .val (.int nRaw), .val (.int at_), .val (.int n), .val (.ref b2), .unset, .unset] [(.int (((w2.toUInt64 >>> ((40 : Int32) &&& 0x3f).toInt64.toUInt64).toInt64).toInt32)), (.int (13 : Int32)), (.ref b2)])) _
    refine XS.i2b X27.here hx rfl (hb hby at_169) rfl ?_
    show Steps p.tables e below (T27.setTop (mkF m 170 #[.val (.long vv), .second, .val (.long w1), .second, .val (.long w2), .second, .val (.int atRaw), .val (.int nRaw), .val (.int at_), .val (.int n), .val (.ref b2), .unset, .unset] [(.int ((((w2.toUInt64 >>> ((40 : Int32) &&& 0x3f).toInt64.toUInt64).toInt64).toInt32).toInt8.toInt32)), (.int (13 : Int32)), (.ref b2)])) _
    refine st29 _ ?_
    exact k
  obtain ⟨c14, Ar14, Sz14, Hc14⟩ := B14
  have hin14 : ¬ ((14 : Int32) < 0 ∨ c14.slots.size ≤ ((14 : Int32)).toNatClampNeg) := by rw [Sz14]; decide
  obtain ⟨T31, h31, X31, e31, W31, st31⟩ := stB X29 hx hZ e29 Ar14 (j := (14 : Int32)) hin14 (g := (mkF m 182 #[.val (.long vv), .second, .val (.long w1), .second, .val (.long w2), .second, .val (.int atRaw), .val (.int nRaw), .val (.int at_), .val (.int n), .val (.ref b2), .unset, .unset] [(.int ((((w2.toUInt64 >>> ((48 : Int32) &&& 0x3f).toInt64.toUInt64).toInt64).toInt32).toInt8.toInt32)), (.int (14 : Int32)), (.ref b2)])) rfl rfl (hb hby at_182)
  obtain ⟨LL31, X31, N31⟩ := own_loc X31 (Fr.snoc X31 N29 g0b)
  obtain ⟨f15, B15⟩ : ∃ f, own_BA Z h31 b2 f := ⟨_, own_wr Ar14 Sz14 Hc14 W31⟩
  have S15 : n0 ≤ h31.size := Nat.le_trans S14 (Keep.of_wr W31).1
  have pre32 : ∀ t, Steps p.tables e below (T31.setTop (mkF m 183 #[.val (.long vv), .second, .val (.long w1), .second, .val (.long w2), .second, .val (.int atRaw), .val (.int nRaw), .val (.int at_), .val (.int n), .val (.ref b2), .unset, .unset] [])) t → Steps p.tables e below (s₁.setTop (entryFrame m #[(.long vv), (.long w1), (.long w2), (.int atRaw), (.int nRaw)] maxLocals)) t := by
    intro t k
    refine pre30 t ?_
    show Steps p.tables e below (T29.setTop (mkF m 171 #[.val (.long vv), .second, .val (.long w1), .second, .val (.long w2), .second, .val (.int atRaw), .val (.int nRaw), .val (.int at_), .val (.int n), .val (.ref b2), .unset, .unset] [])) _
    refine XS.aload X29.here hx rfl (hb hby at_171) rfl rfl ?_
    show Steps p.tables e below (T29.setTop (mkF m 173 #[.val (.long vv), .second, .val (.long w1), .second, .val (.long w2), .second, .val (.int atRaw), .val (.int nRaw), .val (.int at_), .val (.int n), .val (.ref b2), .unset, .unset] [(.ref b2)])) _
    refine XS.bipush X29.here hx rfl (hb hby at_173) ?_
    show Steps p.tables e below (T29.setTop (mkF m 175 #[.val (.long vv), .second, .val (.long w1), .second, .val (.long w2), .second, .val (.int atRaw), .val (.int nRaw), .val (.int at_), .val (.int n), .val (.ref b2), .unset, .unset] [(.int (14 : Int32)), (.ref b2)])) _
    refine XS.lload X29.here hx rfl (hb hby at_175) rfl ?_
    show Steps p.tables e below (T29.setTop (mkF m 177 #[.val (.long vv), .second, .val (.long w1), .second, .val (.long w2), .second, .val (.int atRaw), .val (.int nRaw), .val (.int at_), .val (.int n), .val (.ref b2), .unset, .unset] [(.long w2), (.int (14 : Int32)), (.ref b2)])) _
    refine XS.bipush X29.here hx rfl (hb hby at_177) ?_
    show Steps p.tables e below (T29.setTop (mkF m 179 #[.val (.long vv), .second, .val (.long w1), .second, .val (.long w2), .second, .val (.int atRaw), .val (.int nRaw), .val (.int at_), .val (.int n), .val (.ref b2), .unset, .unset] [(.int (48 : Int32)), (.long w2), (.int (14 : Int32)), (.ref b2)])) _
    refine XS.lushr X29.here hx rfl (hb hby at_179) rfl ?_
    show Steps p.tables e below (T29.setTop (mkF m 180 #[.val (.long vv), .second, .val (.long w1), .second, .val (.long w2), .second, .val (.int atRaw), .val (.int nRaw), .val (.int at_), .val (.int n), .val (.ref b2), .unset, .unset] [(.long ((w2.toUInt64 >>> ((48 : Int32) &&& 0x3f).toInt64.toUInt64).toInt64)), (.int (14 : Int32)), (.ref b2)])) _
    refine XS.l2i X29.here hx rfl (hb hby at_180) rfl ?_
    show Steps p.tables e below (T29.setTop (mkF m 181 #[.val (.long vv), .second, .val (.long w1), .second, .val (.long w2), .second, .val (.int atRaw), .val (.int nRaw), .val (.int at_), .val (.int n), .val (.ref b2), .unset, .unset] [(.int (((w2.toUInt64 >>> ((48 : Int32) &&& 0x3f).toInt64.toUInt64).toInt64).toInt32)), (.int (14 : Int32)), (.ref b2)])) _
    refine XS.i2b X29.here hx rfl (hb hby at_181) rfl ?_
    show Steps p.tables e below (T29.setTop (mkF m 182 #[.val (.long vv), .second, .val (.long w1), .second, .val (.long w2), .second, .val (.int atRaw), .val (.int nRaw), .val (.int at_), .val (.int n), .val (.ref b2), .unset, .unset] [(.int ((((w2.toUInt64 >>> ((48 : Int32) &&& 0x3f).toInt64.toUInt64).toInt64).toInt32).toInt8.toInt32)), (.int (14 : Int32)), (.ref b2)])) _
    refine st31 _ ?_
    exact k
  obtain ⟨c15, Ar15, Sz15, Hc15⟩ := B15
  have hin15 : ¬ ((15 : Int32) < 0 ∨ c15.slots.size ≤ ((15 : Int32)).toNatClampNeg) := by rw [Sz15]; decide
  obtain ⟨T33, h33, X33, e33, W33, st33⟩ := stB X31 hx hZ e31 Ar15 (j := (15 : Int32)) hin15 (g := (mkF m 194 #[.val (.long vv), .second, .val (.long w1), .second, .val (.long w2), .second, .val (.int atRaw), .val (.int nRaw), .val (.int at_), .val (.int n), .val (.ref b2), .unset, .unset] [(.int ((((w2.toUInt64 >>> ((56 : Int32) &&& 0x3f).toInt64.toUInt64).toInt64).toInt32).toInt8.toInt32)), (.int (15 : Int32)), (.ref b2)])) rfl rfl (hb hby at_194)
  obtain ⟨LL33, X33, N33⟩ := own_loc X33 (Fr.snoc X33 N31 g0b)
  obtain ⟨f16, B16⟩ : ∃ f, own_BA Z h33 b2 f := ⟨_, own_wr Ar15 Sz15 Hc15 W33⟩
  have S16 : n0 ≤ h33.size := Nat.le_trans S15 (Keep.of_wr W33).1
  have pre34 : ∀ t, Steps p.tables e below (T33.setTop (mkF m 195 #[.val (.long vv), .second, .val (.long w1), .second, .val (.long w2), .second, .val (.int atRaw), .val (.int nRaw), .val (.int at_), .val (.int n), .val (.ref b2), .unset, .unset] [])) t → Steps p.tables e below (s₁.setTop (entryFrame m #[(.long vv), (.long w1), (.long w2), (.int atRaw), (.int nRaw)] maxLocals)) t := by
    intro t k
    refine pre32 t ?_
    show Steps p.tables e below (T31.setTop (mkF m 183 #[.val (.long vv), .second, .val (.long w1), .second, .val (.long w2), .second, .val (.int atRaw), .val (.int nRaw), .val (.int at_), .val (.int n), .val (.ref b2), .unset, .unset] [])) _
    refine XS.aload X31.here hx rfl (hb hby at_183) rfl rfl ?_
    show Steps p.tables e below (T31.setTop (mkF m 185 #[.val (.long vv), .second, .val (.long w1), .second, .val (.long w2), .second, .val (.int atRaw), .val (.int nRaw), .val (.int at_), .val (.int n), .val (.ref b2), .unset, .unset] [(.ref b2)])) _
    refine XS.bipush X31.here hx rfl (hb hby at_185) ?_
    show Steps p.tables e below (T31.setTop (mkF m 187 #[.val (.long vv), .second, .val (.long w1), .second, .val (.long w2), .second, .val (.int atRaw), .val (.int nRaw), .val (.int at_), .val (.int n), .val (.ref b2), .unset, .unset] [(.int (15 : Int32)), (.ref b2)])) _
    refine XS.lload X31.here hx rfl (hb hby at_187) rfl ?_
    show Steps p.tables e below (T31.setTop (mkF m 189 #[.val (.long vv), .second, .val (.long w1), .second, .val (.long w2), .second, .val (.int atRaw), .val (.int nRaw), .val (.int at_), .val (.int n), .val (.ref b2), .unset, .unset] [(.long w2), (.int (15 : Int32)), (.ref b2)])) _
    refine XS.bipush X31.here hx rfl (hb hby at_189) ?_
    show Steps p.tables e below (T31.setTop (mkF m 191 #[.val (.long vv), .second, .val (.long w1), .second, .val (.long w2), .second, .val (.int atRaw), .val (.int nRaw), .val (.int at_), .val (.int n), .val (.ref b2), .unset, .unset] [(.int (56 : Int32)), (.long w2), (.int (15 : Int32)), (.ref b2)])) _
    refine XS.lushr X31.here hx rfl (hb hby at_191) rfl ?_
    show Steps p.tables e below (T31.setTop (mkF m 192 #[.val (.long vv), .second, .val (.long w1), .second, .val (.long w2), .second, .val (.int atRaw), .val (.int nRaw), .val (.int at_), .val (.int n), .val (.ref b2), .unset, .unset] [(.long ((w2.toUInt64 >>> ((56 : Int32) &&& 0x3f).toInt64.toUInt64).toInt64)), (.int (15 : Int32)), (.ref b2)])) _
    refine XS.l2i X31.here hx rfl (hb hby at_192) rfl ?_
    show Steps p.tables e below (T31.setTop (mkF m 193 #[.val (.long vv), .second, .val (.long w1), .second, .val (.long w2), .second, .val (.int atRaw), .val (.int nRaw), .val (.int at_), .val (.int n), .val (.ref b2), .unset, .unset] [(.int (((w2.toUInt64 >>> ((56 : Int32) &&& 0x3f).toInt64.toUInt64).toInt64).toInt32)), (.int (15 : Int32)), (.ref b2)])) _
    refine XS.i2b X31.here hx rfl (hb hby at_193) rfl ?_
    show Steps p.tables e below (T31.setTop (mkF m 194 #[.val (.long vv), .second, .val (.long w1), .second, .val (.long w2), .second, .val (.int atRaw), .val (.int nRaw), .val (.int at_), .val (.int n), .val (.ref b2), .unset, .unset] [(.int ((((w2.toUInt64 >>> ((56 : Int32) &&& 0x3f).toInt64.toUInt64).toInt64).toInt32).toInt8.toInt32)), (.int (15 : Int32)), (.ref b2)])) _
    refine st33 _ ?_
    exact k
  obtain ⟨c16, Ar16, Sz16, Hc16⟩ := B16
  have hin16 : ¬ (at_ < 0 ∨ c16.slots.size ≤ at_.toNatClampNeg) := own_inb0 ha Sz16
  obtain ⟨T35, h35, X35, e35, W35, st35⟩ := stB X33 hx hZ e33 Ar16 (j := at_) hin16 (g := (mkF m 202 #[.val (.long vv), .second, .val (.long w1), .second, .val (.long w2), .second, .val (.int atRaw), .val (.int nRaw), .val (.int at_), .val (.int n), .val (.ref b2), .unset, .unset] [(.int ((vv.toInt32).toInt8.toInt32)), (.int at_), (.ref b2)])) rfl rfl (hb hby at_202)
  obtain ⟨LL35, X35, N35⟩ := own_loc X35 (Fr.snoc X35 N33 g0b)
  have B17 := own_wr Ar16 Sz16 Hc16 W35
  have S17 : n0 ≤ h35.size := Nat.le_trans S16 (Keep.of_wr W35).1
  have pre36 : ∀ t, Steps p.tables e below (T35.setTop (mkF m 203 #[.val (.long vv), .second, .val (.long w1), .second, .val (.long w2), .second, .val (.int atRaw), .val (.int nRaw), .val (.int at_), .val (.int n), .val (.ref b2), .unset, .unset] [])) t → Steps p.tables e below (s₁.setTop (entryFrame m #[(.long vv), (.long w1), (.long w2), (.int atRaw), (.int nRaw)] maxLocals)) t := by
    intro t k
    refine pre34 t ?_
    show Steps p.tables e below (T33.setTop (mkF m 195 #[.val (.long vv), .second, .val (.long w1), .second, .val (.long w2), .second, .val (.int atRaw), .val (.int nRaw), .val (.int at_), .val (.int n), .val (.ref b2), .unset, .unset] [])) _
    refine XS.aload X33.here hx rfl (hb hby at_195) rfl rfl ?_
    show Steps p.tables e below (T33.setTop (mkF m 197 #[.val (.long vv), .second, .val (.long w1), .second, .val (.long w2), .second, .val (.int atRaw), .val (.int nRaw), .val (.int at_), .val (.int n), .val (.ref b2), .unset, .unset] [(.ref b2)])) _
    refine XS.iload X33.here hx rfl (hb hby at_197) rfl ?_
    show Steps p.tables e below (T33.setTop (mkF m 199 #[.val (.long vv), .second, .val (.long w1), .second, .val (.long w2), .second, .val (.int atRaw), .val (.int nRaw), .val (.int at_), .val (.int n), .val (.ref b2), .unset, .unset] [(.int at_), (.ref b2)])) _
    refine XS.lloadN X33.here hx rfl (hb hby at_199) rfl ?_
    show Steps p.tables e below (T33.setTop (mkF m 200 #[.val (.long vv), .second, .val (.long w1), .second, .val (.long w2), .second, .val (.int atRaw), .val (.int nRaw), .val (.int at_), .val (.int n), .val (.ref b2), .unset, .unset] [(.long vv), (.int at_), (.ref b2)])) _
    refine XS.l2i X33.here hx rfl (hb hby at_200) rfl ?_
    show Steps p.tables e below (T33.setTop (mkF m 201 #[.val (.long vv), .second, .val (.long w1), .second, .val (.long w2), .second, .val (.int atRaw), .val (.int nRaw), .val (.int at_), .val (.int n), .val (.ref b2), .unset, .unset] [(.int (vv.toInt32)), (.int at_), (.ref b2)])) _
    refine XS.i2b X33.here hx rfl (hb hby at_201) rfl ?_
    show Steps p.tables e below (T33.setTop (mkF m 202 #[.val (.long vv), .second, .val (.long w1), .second, .val (.long w2), .second, .val (.int atRaw), .val (.int nRaw), .val (.int at_), .val (.int n), .val (.ref b2), .unset, .unset] [(.int ((vv.toInt32).toInt8.toInt32)), (.int at_), (.ref b2)])) _
    refine st35 _ ?_
    exact k
  obtain ⟨c17, Ar17, Sz17, Hc17⟩ := B17
  obtain ⟨x17, u17, o17⟩ := own_idx (i := (1 : Int32)) (k := 1) ha rfl (by decide)
  have hin17 : ¬ ((at_ + (1 : Int32)) < 0 ∨ c17.slots.size ≤ ((at_ + (1 : Int32))).toNatClampNeg) := own_inb x17 u17 o17 Sz17
  obtain ⟨T37, h37, X37, e37, W37, st37⟩ := stB X35 hx hZ e35 Ar17 (j := (at_ + (1 : Int32))) hin17 (g := (mkF m 215 #[.val (.long vv), .second, .val (.long w1), .second, .val (.long w2), .second, .val (.int atRaw), .val (.int nRaw), .val (.int at_), .val (.int n), .val (.ref b2), .unset, .unset] [(.int ((((vv.toUInt64 >>> ((8 : Int32) &&& 0x3f).toInt64.toUInt64).toInt64).toInt32).toInt8.toInt32)), (.int (at_ + (1 : Int32))), (.ref b2)])) rfl rfl (hb hby at_215)
  obtain ⟨LL37, X37, N37⟩ := own_loc X37 (Fr.snoc X37 N35 g0b)
  rw [x17] at W37
  have B18 := own_wr Ar17 Sz17 Hc17 W37
  have S18 : n0 ≤ h37.size := Nat.le_trans S17 (Keep.of_wr W37).1
  have pre38 : ∀ t, Steps p.tables e below (T37.setTop (mkF m 216 #[.val (.long vv), .second, .val (.long w1), .second, .val (.long w2), .second, .val (.int atRaw), .val (.int nRaw), .val (.int at_), .val (.int n), .val (.ref b2), .unset, .unset] [])) t → Steps p.tables e below (s₁.setTop (entryFrame m #[(.long vv), (.long w1), (.long w2), (.int atRaw), (.int nRaw)] maxLocals)) t := by
    intro t k
    refine pre36 t ?_
    show Steps p.tables e below (T35.setTop (mkF m 203 #[.val (.long vv), .second, .val (.long w1), .second, .val (.long w2), .second, .val (.int atRaw), .val (.int nRaw), .val (.int at_), .val (.int n), .val (.ref b2), .unset, .unset] [])) _
    refine XS.aload X35.here hx rfl (hb hby at_203) rfl rfl ?_
    show Steps p.tables e below (T35.setTop (mkF m 205 #[.val (.long vv), .second, .val (.long w1), .second, .val (.long w2), .second, .val (.int atRaw), .val (.int nRaw), .val (.int at_), .val (.int n), .val (.ref b2), .unset, .unset] [(.ref b2)])) _
    refine XS.iload X35.here hx rfl (hb hby at_205) rfl ?_
    show Steps p.tables e below (T35.setTop (mkF m 207 #[.val (.long vv), .second, .val (.long w1), .second, .val (.long w2), .second, .val (.int atRaw), .val (.int nRaw), .val (.int at_), .val (.int n), .val (.ref b2), .unset, .unset] [(.int at_), (.ref b2)])) _
    refine XS.iconst X35.here hx rfl (hb hby at_207) ?_
    show Steps p.tables e below (T35.setTop (mkF m 208 #[.val (.long vv), .second, .val (.long w1), .second, .val (.long w2), .second, .val (.int atRaw), .val (.int nRaw), .val (.int at_), .val (.int n), .val (.ref b2), .unset, .unset] [(.int (1 : Int32)), (.int at_), (.ref b2)])) _
    refine XS.iadd X35.here hx rfl (hb hby at_208) rfl ?_
    show Steps p.tables e below (T35.setTop (mkF m 209 #[.val (.long vv), .second, .val (.long w1), .second, .val (.long w2), .second, .val (.int atRaw), .val (.int nRaw), .val (.int at_), .val (.int n), .val (.ref b2), .unset, .unset] [(.int (at_ + (1 : Int32))), (.ref b2)])) _
    refine XS.lloadN X35.here hx rfl (hb hby at_209) rfl ?_
    show Steps p.tables e below (T35.setTop (mkF m 210 #[.val (.long vv), .second, .val (.long w1), .second, .val (.long w2), .second, .val (.int atRaw), .val (.int nRaw), .val (.int at_), .val (.int n), .val (.ref b2), .unset, .unset] [(.long vv), (.int (at_ + (1 : Int32))), (.ref b2)])) _
    refine XS.bipush X35.here hx rfl (hb hby at_210) ?_
    show Steps p.tables e below (T35.setTop (mkF m 212 #[.val (.long vv), .second, .val (.long w1), .second, .val (.long w2), .second, .val (.int atRaw), .val (.int nRaw), .val (.int at_), .val (.int n), .val (.ref b2), .unset, .unset] [(.int (8 : Int32)), (.long vv), (.int (at_ + (1 : Int32))), (.ref b2)])) _
    refine XS.lushr X35.here hx rfl (hb hby at_212) rfl ?_
    show Steps p.tables e below (T35.setTop (mkF m 213 #[.val (.long vv), .second, .val (.long w1), .second, .val (.long w2), .second, .val (.int atRaw), .val (.int nRaw), .val (.int at_), .val (.int n), .val (.ref b2), .unset, .unset] [(.long ((vv.toUInt64 >>> ((8 : Int32) &&& 0x3f).toInt64.toUInt64).toInt64)), (.int (at_ + (1 : Int32))), (.ref b2)])) _
    refine XS.l2i X35.here hx rfl (hb hby at_213) rfl ?_
    show Steps p.tables e below (T35.setTop (mkF m 214 #[.val (.long vv), .second, .val (.long w1), .second, .val (.long w2), .second, .val (.int atRaw), .val (.int nRaw), .val (.int at_), .val (.int n), .val (.ref b2), .unset, .unset] [(.int (((vv.toUInt64 >>> ((8 : Int32) &&& 0x3f).toInt64.toUInt64).toInt64).toInt32)), (.int (at_ + (1 : Int32))), (.ref b2)])) _
    refine XS.i2b X35.here hx rfl (hb hby at_214) rfl ?_
    show Steps p.tables e below (T35.setTop (mkF m 215 #[.val (.long vv), .second, .val (.long w1), .second, .val (.long w2), .second, .val (.int atRaw), .val (.int nRaw), .val (.int at_), .val (.int n), .val (.ref b2), .unset, .unset] [(.int ((((vv.toUInt64 >>> ((8 : Int32) &&& 0x3f).toInt64.toUInt64).toInt64).toInt32).toInt8.toInt32)), (.int (at_ + (1 : Int32))), (.ref b2)])) _
    refine st37 _ ?_
    exact k
  obtain ⟨c18, Ar18, Sz18, Hc18⟩ := B18
  obtain ⟨x18, u18, o18⟩ := own_idx (i := (2 : Int32)) (k := 2) ha rfl (by decide)
  have hin18 : ¬ ((at_ + (2 : Int32)) < 0 ∨ c18.slots.size ≤ ((at_ + (2 : Int32))).toNatClampNeg) := own_inb x18 u18 o18 Sz18
  obtain ⟨T39, h39, X39, e39, W39, st39⟩ := stB X37 hx hZ e37 Ar18 (j := (at_ + (2 : Int32))) hin18 (g := (mkF m 228 #[.val (.long vv), .second, .val (.long w1), .second, .val (.long w2), .second, .val (.int atRaw), .val (.int nRaw), .val (.int at_), .val (.int n), .val (.ref b2), .unset, .unset] [(.int ((((vv.toUInt64 >>> ((16 : Int32) &&& 0x3f).toInt64.toUInt64).toInt64).toInt32).toInt8.toInt32)), (.int (at_ + (2 : Int32))), (.ref b2)])) rfl rfl (hb hby at_228)
  obtain ⟨LL39, X39, N39⟩ := own_loc X39 (Fr.snoc X39 N37 g0b)
  rw [x18] at W39
  have B19 := own_wr Ar18 Sz18 Hc18 W39
  have S19 : n0 ≤ h39.size := Nat.le_trans S18 (Keep.of_wr W39).1
  have pre40 : ∀ t, Steps p.tables e below (T39.setTop (mkF m 229 #[.val (.long vv), .second, .val (.long w1), .second, .val (.long w2), .second, .val (.int atRaw), .val (.int nRaw), .val (.int at_), .val (.int n), .val (.ref b2), .unset, .unset] [])) t → Steps p.tables e below (s₁.setTop (entryFrame m #[(.long vv), (.long w1), (.long w2), (.int atRaw), (.int nRaw)] maxLocals)) t := by
    intro t k
    refine pre38 t ?_
    show Steps p.tables e below (T37.setTop (mkF m 216 #[.val (.long vv), .second, .val (.long w1), .second, .val (.long w2), .second, .val (.int atRaw), .val (.int nRaw), .val (.int at_), .val (.int n), .val (.ref b2), .unset, .unset] [])) _
    refine XS.aload X37.here hx rfl (hb hby at_216) rfl rfl ?_
    show Steps p.tables e below (T37.setTop (mkF m 218 #[.val (.long vv), .second, .val (.long w1), .second, .val (.long w2), .second, .val (.int atRaw), .val (.int nRaw), .val (.int at_), .val (.int n), .val (.ref b2), .unset, .unset] [(.ref b2)])) _
    refine XS.iload X37.here hx rfl (hb hby at_218) rfl ?_
    show Steps p.tables e below (T37.setTop (mkF m 220 #[.val (.long vv), .second, .val (.long w1), .second, .val (.long w2), .second, .val (.int atRaw), .val (.int nRaw), .val (.int at_), .val (.int n), .val (.ref b2), .unset, .unset] [(.int at_), (.ref b2)])) _
    refine XS.iconst X37.here hx rfl (hb hby at_220) ?_
    show Steps p.tables e below (T37.setTop (mkF m 221 #[.val (.long vv), .second, .val (.long w1), .second, .val (.long w2), .second, .val (.int atRaw), .val (.int nRaw), .val (.int at_), .val (.int n), .val (.ref b2), .unset, .unset] [(.int (2 : Int32)), (.int at_), (.ref b2)])) _
    refine XS.iadd X37.here hx rfl (hb hby at_221) rfl ?_
    show Steps p.tables e below (T37.setTop (mkF m 222 #[.val (.long vv), .second, .val (.long w1), .second, .val (.long w2), .second, .val (.int atRaw), .val (.int nRaw), .val (.int at_), .val (.int n), .val (.ref b2), .unset, .unset] [(.int (at_ + (2 : Int32))), (.ref b2)])) _
    refine XS.lloadN X37.here hx rfl (hb hby at_222) rfl ?_
    show Steps p.tables e below (T37.setTop (mkF m 223 #[.val (.long vv), .second, .val (.long w1), .second, .val (.long w2), .second, .val (.int atRaw), .val (.int nRaw), .val (.int at_), .val (.int n), .val (.ref b2), .unset, .unset] [(.long vv), (.int (at_ + (2 : Int32))), (.ref b2)])) _
    refine XS.bipush X37.here hx rfl (hb hby at_223) ?_
    show Steps p.tables e below (T37.setTop (mkF m 225 #[.val (.long vv), .second, .val (.long w1), .second, .val (.long w2), .second, .val (.int atRaw), .val (.int nRaw), .val (.int at_), .val (.int n), .val (.ref b2), .unset, .unset] [(.int (16 : Int32)), (.long vv), (.int (at_ + (2 : Int32))), (.ref b2)])) _
    refine XS.lushr X37.here hx rfl (hb hby at_225) rfl ?_
    show Steps p.tables e below (T37.setTop (mkF m 226 #[.val (.long vv), .second, .val (.long w1), .second, .val (.long w2), .second, .val (.int atRaw), .val (.int nRaw), .val (.int at_), .val (.int n), .val (.ref b2), .unset, .unset] [(.long ((vv.toUInt64 >>> ((16 : Int32) &&& 0x3f).toInt64.toUInt64).toInt64)), (.int (at_ + (2 : Int32))), (.ref b2)])) _
    refine XS.l2i X37.here hx rfl (hb hby at_226) rfl ?_
    show Steps p.tables e below (T37.setTop (mkF m 227 #[.val (.long vv), .second, .val (.long w1), .second, .val (.long w2), .second, .val (.int atRaw), .val (.int nRaw), .val (.int at_), .val (.int n), .val (.ref b2), .unset, .unset] [(.int (((vv.toUInt64 >>> ((16 : Int32) &&& 0x3f).toInt64.toUInt64).toInt64).toInt32)), (.int (at_ + (2 : Int32))), (.ref b2)])) _
    refine XS.i2b X37.here hx rfl (hb hby at_227) rfl ?_
    show Steps p.tables e below (T37.setTop (mkF m 228 #[.val (.long vv), .second, .val (.long w1), .second, .val (.long w2), .second, .val (.int atRaw), .val (.int nRaw), .val (.int at_), .val (.int n), .val (.ref b2), .unset, .unset] [(.int ((((vv.toUInt64 >>> ((16 : Int32) &&& 0x3f).toInt64.toUInt64).toInt64).toInt32).toInt8.toInt32)), (.int (at_ + (2 : Int32))), (.ref b2)])) _
    refine st39 _ ?_
    exact k
  obtain ⟨c19, Ar19, Sz19, Hc19⟩ := B19
  obtain ⟨x19, u19, o19⟩ := own_idx (i := (3 : Int32)) (k := 3) ha rfl (by decide)
  have hin19 : ¬ ((at_ + (3 : Int32)) < 0 ∨ c19.slots.size ≤ ((at_ + (3 : Int32))).toNatClampNeg) := own_inb x19 u19 o19 Sz19
  obtain ⟨T41, h41, X41, e41, W41, st41⟩ := stB X39 hx hZ e39 Ar19 (j := (at_ + (3 : Int32))) hin19 (g := (mkF m 241 #[.val (.long vv), .second, .val (.long w1), .second, .val (.long w2), .second, .val (.int atRaw), .val (.int nRaw), .val (.int at_), .val (.int n), .val (.ref b2), .unset, .unset] [(.int ((((vv.toUInt64 >>> ((24 : Int32) &&& 0x3f).toInt64.toUInt64).toInt64).toInt32).toInt8.toInt32)), (.int (at_ + (3 : Int32))), (.ref b2)])) rfl rfl (hb hby at_241)
  obtain ⟨LL41, X41, N41⟩ := own_loc X41 (Fr.snoc X41 N39 g0b)
  rw [x19] at W41
  have B20 := own_wr Ar19 Sz19 Hc19 W41
  have S20 : n0 ≤ h41.size := Nat.le_trans S19 (Keep.of_wr W41).1
  have pre42 : ∀ t, Steps p.tables e below (T41.setTop (mkF m 242 #[.val (.long vv), .second, .val (.long w1), .second, .val (.long w2), .second, .val (.int atRaw), .val (.int nRaw), .val (.int at_), .val (.int n), .val (.ref b2), .unset, .unset] [])) t → Steps p.tables e below (s₁.setTop (entryFrame m #[(.long vv), (.long w1), (.long w2), (.int atRaw), (.int nRaw)] maxLocals)) t := by
    intro t k
    refine pre40 t ?_
    show Steps p.tables e below (T39.setTop (mkF m 229 #[.val (.long vv), .second, .val (.long w1), .second, .val (.long w2), .second, .val (.int atRaw), .val (.int nRaw), .val (.int at_), .val (.int n), .val (.ref b2), .unset, .unset] [])) _
    refine XS.aload X39.here hx rfl (hb hby at_229) rfl rfl ?_
    show Steps p.tables e below (T39.setTop (mkF m 231 #[.val (.long vv), .second, .val (.long w1), .second, .val (.long w2), .second, .val (.int atRaw), .val (.int nRaw), .val (.int at_), .val (.int n), .val (.ref b2), .unset, .unset] [(.ref b2)])) _
    refine XS.iload X39.here hx rfl (hb hby at_231) rfl ?_
    show Steps p.tables e below (T39.setTop (mkF m 233 #[.val (.long vv), .second, .val (.long w1), .second, .val (.long w2), .second, .val (.int atRaw), .val (.int nRaw), .val (.int at_), .val (.int n), .val (.ref b2), .unset, .unset] [(.int at_), (.ref b2)])) _
    refine XS.iconst X39.here hx rfl (hb hby at_233) ?_
    show Steps p.tables e below (T39.setTop (mkF m 234 #[.val (.long vv), .second, .val (.long w1), .second, .val (.long w2), .second, .val (.int atRaw), .val (.int nRaw), .val (.int at_), .val (.int n), .val (.ref b2), .unset, .unset] [(.int (3 : Int32)), (.int at_), (.ref b2)])) _
    refine XS.iadd X39.here hx rfl (hb hby at_234) rfl ?_
    show Steps p.tables e below (T39.setTop (mkF m 235 #[.val (.long vv), .second, .val (.long w1), .second, .val (.long w2), .second, .val (.int atRaw), .val (.int nRaw), .val (.int at_), .val (.int n), .val (.ref b2), .unset, .unset] [(.int (at_ + (3 : Int32))), (.ref b2)])) _
    refine XS.lloadN X39.here hx rfl (hb hby at_235) rfl ?_
    show Steps p.tables e below (T39.setTop (mkF m 236 #[.val (.long vv), .second, .val (.long w1), .second, .val (.long w2), .second, .val (.int atRaw), .val (.int nRaw), .val (.int at_), .val (.int n), .val (.ref b2), .unset, .unset] [(.long vv), (.int (at_ + (3 : Int32))), (.ref b2)])) _
    refine XS.bipush X39.here hx rfl (hb hby at_236) ?_
    show Steps p.tables e below (T39.setTop (mkF m 238 #[.val (.long vv), .second, .val (.long w1), .second, .val (.long w2), .second, .val (.int atRaw), .val (.int nRaw), .val (.int at_), .val (.int n), .val (.ref b2), .unset, .unset] [(.int (24 : Int32)), (.long vv), (.int (at_ + (3 : Int32))), (.ref b2)])) _
    refine XS.lushr X39.here hx rfl (hb hby at_238) rfl ?_
    show Steps p.tables e below (T39.setTop (mkF m 239 #[.val (.long vv), .second, .val (.long w1), .second, .val (.long w2), .second, .val (.int atRaw), .val (.int nRaw), .val (.int at_), .val (.int n), .val (.ref b2), .unset, .unset] [(.long ((vv.toUInt64 >>> ((24 : Int32) &&& 0x3f).toInt64.toUInt64).toInt64)), (.int (at_ + (3 : Int32))), (.ref b2)])) _
    refine XS.l2i X39.here hx rfl (hb hby at_239) rfl ?_
    show Steps p.tables e below (T39.setTop (mkF m 240 #[.val (.long vv), .second, .val (.long w1), .second, .val (.long w2), .second, .val (.int atRaw), .val (.int nRaw), .val (.int at_), .val (.int n), .val (.ref b2), .unset, .unset] [(.int (((vv.toUInt64 >>> ((24 : Int32) &&& 0x3f).toInt64.toUInt64).toInt64).toInt32)), (.int (at_ + (3 : Int32))), (.ref b2)])) _
    refine XS.i2b X39.here hx rfl (hb hby at_240) rfl ?_
    show Steps p.tables e below (T39.setTop (mkF m 241 #[.val (.long vv), .second, .val (.long w1), .second, .val (.long w2), .second, .val (.int atRaw), .val (.int nRaw), .val (.int at_), .val (.int n), .val (.ref b2), .unset, .unset] [(.int ((((vv.toUInt64 >>> ((24 : Int32) &&& 0x3f).toInt64.toUInt64).toInt64).toInt32).toInt8.toInt32)), (.int (at_ + (3 : Int32))), (.ref b2)])) _
    refine st41 _ ?_
    exact k
  obtain ⟨c20, Ar20, Sz20, Hc20⟩ := B20
  obtain ⟨x20, u20, o20⟩ := own_idx (i := (4 : Int32)) (k := 4) ha rfl (by decide)
  have hin20 : ¬ ((at_ + (4 : Int32)) < 0 ∨ c20.slots.size ≤ ((at_ + (4 : Int32))).toNatClampNeg) := own_inb x20 u20 o20 Sz20
  obtain ⟨T43, h43, X43, e43, W43, st43⟩ := stB X41 hx hZ e41 Ar20 (j := (at_ + (4 : Int32))) hin20 (g := (mkF m 254 #[.val (.long vv), .second, .val (.long w1), .second, .val (.long w2), .second, .val (.int atRaw), .val (.int nRaw), .val (.int at_), .val (.int n), .val (.ref b2), .unset, .unset] [(.int ((((vv.toUInt64 >>> ((32 : Int32) &&& 0x3f).toInt64.toUInt64).toInt64).toInt32).toInt8.toInt32)), (.int (at_ + (4 : Int32))), (.ref b2)])) rfl rfl (hb hby at_254)
  obtain ⟨LL43, X43, N43⟩ := own_loc X43 (Fr.snoc X43 N41 g0b)
  rw [x20] at W43
  have B21 := own_wr Ar20 Sz20 Hc20 W43
  have S21 : n0 ≤ h43.size := Nat.le_trans S20 (Keep.of_wr W43).1
  have pre44 : ∀ t, Steps p.tables e below (T43.setTop (mkF m 255 #[.val (.long vv), .second, .val (.long w1), .second, .val (.long w2), .second, .val (.int atRaw), .val (.int nRaw), .val (.int at_), .val (.int n), .val (.ref b2), .unset, .unset] [])) t → Steps p.tables e below (s₁.setTop (entryFrame m #[(.long vv), (.long w1), (.long w2), (.int atRaw), (.int nRaw)] maxLocals)) t := by
    intro t k
    refine pre42 t ?_
    show Steps p.tables e below (T41.setTop (mkF m 242 #[.val (.long vv), .second, .val (.long w1), .second, .val (.long w2), .second, .val (.int atRaw), .val (.int nRaw), .val (.int at_), .val (.int n), .val (.ref b2), .unset, .unset] [])) _
    refine XS.aload X41.here hx rfl (hb hby at_242) rfl rfl ?_
    show Steps p.tables e below (T41.setTop (mkF m 244 #[.val (.long vv), .second, .val (.long w1), .second, .val (.long w2), .second, .val (.int atRaw), .val (.int nRaw), .val (.int at_), .val (.int n), .val (.ref b2), .unset, .unset] [(.ref b2)])) _
    refine XS.iload X41.here hx rfl (hb hby at_244) rfl ?_
    show Steps p.tables e below (T41.setTop (mkF m 246 #[.val (.long vv), .second, .val (.long w1), .second, .val (.long w2), .second, .val (.int atRaw), .val (.int nRaw), .val (.int at_), .val (.int n), .val (.ref b2), .unset, .unset] [(.int at_), (.ref b2)])) _
    refine XS.iconst X41.here hx rfl (hb hby at_246) ?_
    show Steps p.tables e below (T41.setTop (mkF m 247 #[.val (.long vv), .second, .val (.long w1), .second, .val (.long w2), .second, .val (.int atRaw), .val (.int nRaw), .val (.int at_), .val (.int n), .val (.ref b2), .unset, .unset] [(.int (4 : Int32)), (.int at_), (.ref b2)])) _
    refine XS.iadd X41.here hx rfl (hb hby at_247) rfl ?_
    show Steps p.tables e below (T41.setTop (mkF m 248 #[.val (.long vv), .second, .val (.long w1), .second, .val (.long w2), .second, .val (.int atRaw), .val (.int nRaw), .val (.int at_), .val (.int n), .val (.ref b2), .unset, .unset] [(.int (at_ + (4 : Int32))), (.ref b2)])) _
    refine XS.lloadN X41.here hx rfl (hb hby at_248) rfl ?_
    show Steps p.tables e below (T41.setTop (mkF m 249 #[.val (.long vv), .second, .val (.long w1), .second, .val (.long w2), .second, .val (.int atRaw), .val (.int nRaw), .val (.int at_), .val (.int n), .val (.ref b2), .unset, .unset] [(.long vv), (.int (at_ + (4 : Int32))), (.ref b2)])) _
    refine XS.bipush X41.here hx rfl (hb hby at_249) ?_
    show Steps p.tables e below (T41.setTop (mkF m 251 #[.val (.long vv), .second, .val (.long w1), .second, .val (.long w2), .second, .val (.int atRaw), .val (.int nRaw), .val (.int at_), .val (.int n), .val (.ref b2), .unset, .unset] [(.int (32 : Int32)), (.long vv), (.int (at_ + (4 : Int32))), (.ref b2)])) _
    refine XS.lushr X41.here hx rfl (hb hby at_251) rfl ?_
    show Steps p.tables e below (T41.setTop (mkF m 252 #[.val (.long vv), .second, .val (.long w1), .second, .val (.long w2), .second, .val (.int atRaw), .val (.int nRaw), .val (.int at_), .val (.int n), .val (.ref b2), .unset, .unset] [(.long ((vv.toUInt64 >>> ((32 : Int32) &&& 0x3f).toInt64.toUInt64).toInt64)), (.int (at_ + (4 : Int32))), (.ref b2)])) _
    refine XS.l2i X41.here hx rfl (hb hby at_252) rfl ?_
    show Steps p.tables e below (T41.setTop (mkF m 253 #[.val (.long vv), .second, .val (.long w1), .second, .val (.long w2), .second, .val (.int atRaw), .val (.int nRaw), .val (.int at_), .val (.int n), .val (.ref b2), .unset, .unset] [(.int (((vv.toUInt64 >>> ((32 : Int32) &&& 0x3f).toInt64.toUInt64).toInt64).toInt32)), (.int (at_ + (4 : Int32))), (.ref b2)])) _
    refine XS.i2b X41.here hx rfl (hb hby at_253) rfl ?_
    show Steps p.tables e below (T41.setTop (mkF m 254 #[.val (.long vv), .second, .val (.long w1), .second, .val (.long w2), .second, .val (.int atRaw), .val (.int nRaw), .val (.int at_), .val (.int n), .val (.ref b2), .unset, .unset] [(.int ((((vv.toUInt64 >>> ((32 : Int32) &&& 0x3f).toInt64.toUInt64).toInt64).toInt32).toInt8.toInt32)), (.int (at_ + (4 : Int32))), (.ref b2)])) _
    refine st43 _ ?_
    exact k
  obtain ⟨c21, Ar21, Sz21, Hc21⟩ := B21
  obtain ⟨x21, u21, o21⟩ := own_idx (i := (5 : Int32)) (k := 5) ha rfl (by decide)
  have hin21 : ¬ ((at_ + (5 : Int32)) < 0 ∨ c21.slots.size ≤ ((at_ + (5 : Int32))).toNatClampNeg) := own_inb x21 u21 o21 Sz21
  obtain ⟨T45, h45, X45, e45, W45, st45⟩ := stB X43 hx hZ e43 Ar21 (j := (at_ + (5 : Int32))) hin21 (g := (mkF m 267 #[.val (.long vv), .second, .val (.long w1), .second, .val (.long w2), .second, .val (.int atRaw), .val (.int nRaw), .val (.int at_), .val (.int n), .val (.ref b2), .unset, .unset] [(.int ((((vv.toUInt64 >>> ((40 : Int32) &&& 0x3f).toInt64.toUInt64).toInt64).toInt32).toInt8.toInt32)), (.int (at_ + (5 : Int32))), (.ref b2)])) rfl rfl (hb hby at_267)
  obtain ⟨LL45, X45, N45⟩ := own_loc X45 (Fr.snoc X45 N43 g0b)
  rw [x21] at W45
  have B22 := own_wr Ar21 Sz21 Hc21 W45
  have S22 : n0 ≤ h45.size := Nat.le_trans S21 (Keep.of_wr W45).1
  have pre46 : ∀ t, Steps p.tables e below (T45.setTop (mkF m 268 #[.val (.long vv), .second, .val (.long w1), .second, .val (.long w2), .second, .val (.int atRaw), .val (.int nRaw), .val (.int at_), .val (.int n), .val (.ref b2), .unset, .unset] [])) t → Steps p.tables e below (s₁.setTop (entryFrame m #[(.long vv), (.long w1), (.long w2), (.int atRaw), (.int nRaw)] maxLocals)) t := by
    intro t k
    refine pre44 t ?_
    show Steps p.tables e below (T43.setTop (mkF m 255 #[.val (.long vv), .second, .val (.long w1), .second, .val (.long w2), .second, .val (.int atRaw), .val (.int nRaw), .val (.int at_), .val (.int n), .val (.ref b2), .unset, .unset] [])) _
    refine XS.aload X43.here hx rfl (hb hby at_255) rfl rfl ?_
    show Steps p.tables e below (T43.setTop (mkF m 257 #[.val (.long vv), .second, .val (.long w1), .second, .val (.long w2), .second, .val (.int atRaw), .val (.int nRaw), .val (.int at_), .val (.int n), .val (.ref b2), .unset, .unset] [(.ref b2)])) _
    refine XS.iload X43.here hx rfl (hb hby at_257) rfl ?_
    show Steps p.tables e below (T43.setTop (mkF m 259 #[.val (.long vv), .second, .val (.long w1), .second, .val (.long w2), .second, .val (.int atRaw), .val (.int nRaw), .val (.int at_), .val (.int n), .val (.ref b2), .unset, .unset] [(.int at_), (.ref b2)])) _
    refine XS.iconst X43.here hx rfl (hb hby at_259) ?_
    show Steps p.tables e below (T43.setTop (mkF m 260 #[.val (.long vv), .second, .val (.long w1), .second, .val (.long w2), .second, .val (.int atRaw), .val (.int nRaw), .val (.int at_), .val (.int n), .val (.ref b2), .unset, .unset] [(.int (5 : Int32)), (.int at_), (.ref b2)])) _
    refine XS.iadd X43.here hx rfl (hb hby at_260) rfl ?_
    show Steps p.tables e below (T43.setTop (mkF m 261 #[.val (.long vv), .second, .val (.long w1), .second, .val (.long w2), .second, .val (.int atRaw), .val (.int nRaw), .val (.int at_), .val (.int n), .val (.ref b2), .unset, .unset] [(.int (at_ + (5 : Int32))), (.ref b2)])) _
    refine XS.lloadN X43.here hx rfl (hb hby at_261) rfl ?_
    show Steps p.tables e below (T43.setTop (mkF m 262 #[.val (.long vv), .second, .val (.long w1), .second, .val (.long w2), .second, .val (.int atRaw), .val (.int nRaw), .val (.int at_), .val (.int n), .val (.ref b2), .unset, .unset] [(.long vv), (.int (at_ + (5 : Int32))), (.ref b2)])) _
    refine XS.bipush X43.here hx rfl (hb hby at_262) ?_
    show Steps p.tables e below (T43.setTop (mkF m 264 #[.val (.long vv), .second, .val (.long w1), .second, .val (.long w2), .second, .val (.int atRaw), .val (.int nRaw), .val (.int at_), .val (.int n), .val (.ref b2), .unset, .unset] [(.int (40 : Int32)), (.long vv), (.int (at_ + (5 : Int32))), (.ref b2)])) _
    refine XS.lushr X43.here hx rfl (hb hby at_264) rfl ?_
    show Steps p.tables e below (T43.setTop (mkF m 265 #[.val (.long vv), .second, .val (.long w1), .second, .val (.long w2), .second, .val (.int atRaw), .val (.int nRaw), .val (.int at_), .val (.int n), .val (.ref b2), .unset, .unset] [(.long ((vv.toUInt64 >>> ((40 : Int32) &&& 0x3f).toInt64.toUInt64).toInt64)), (.int (at_ + (5 : Int32))), (.ref b2)])) _
    refine XS.l2i X43.here hx rfl (hb hby at_265) rfl ?_
    show Steps p.tables e below (T43.setTop (mkF m 266 #[.val (.long vv), .second, .val (.long w1), .second, .val (.long w2), .second, .val (.int atRaw), .val (.int nRaw), .val (.int at_), .val (.int n), .val (.ref b2), .unset, .unset] [(.int (((vv.toUInt64 >>> ((40 : Int32) &&& 0x3f).toInt64.toUInt64).toInt64).toInt32)), (.int (at_ + (5 : Int32))), (.ref b2)])) _
    refine XS.i2b X43.here hx rfl (hb hby at_266) rfl ?_
    show Steps p.tables e below (T43.setTop (mkF m 267 #[.val (.long vv), .second, .val (.long w1), .second, .val (.long w2), .second, .val (.int atRaw), .val (.int nRaw), .val (.int at_), .val (.int n), .val (.ref b2), .unset, .unset] [(.int ((((vv.toUInt64 >>> ((40 : Int32) &&& 0x3f).toInt64.toUInt64).toInt64).toInt32).toInt8.toInt32)), (.int (at_ + (5 : Int32))), (.ref b2)])) _
    refine st45 _ ?_
    exact k
  obtain ⟨c22, Ar22, Sz22, Hc22⟩ := B22
  obtain ⟨x22, u22, o22⟩ := own_idx (i := (6 : Int32)) (k := 6) ha rfl (by decide)
  have hin22 : ¬ ((at_ + (6 : Int32)) < 0 ∨ c22.slots.size ≤ ((at_ + (6 : Int32))).toNatClampNeg) := own_inb x22 u22 o22 Sz22
  obtain ⟨T47, h47, X47, e47, W47, st47⟩ := stB X45 hx hZ e45 Ar22 (j := (at_ + (6 : Int32))) hin22 (g := (mkF m 281 #[.val (.long vv), .second, .val (.long w1), .second, .val (.long w2), .second, .val (.int atRaw), .val (.int nRaw), .val (.int at_), .val (.int n), .val (.ref b2), .unset, .unset] [(.int ((((vv.toUInt64 >>> ((48 : Int32) &&& 0x3f).toInt64.toUInt64).toInt64).toInt32).toInt8.toInt32)), (.int (at_ + (6 : Int32))), (.ref b2)])) rfl rfl (hb hby at_281)
  obtain ⟨LL47, X47, N47⟩ := own_loc X47 (Fr.snoc X47 N45 g0b)
  rw [x22] at W47
  have B23 := own_wr Ar22 Sz22 Hc22 W47
  have S23 : n0 ≤ h47.size := Nat.le_trans S22 (Keep.of_wr W47).1
  have pre48 : ∀ t, Steps p.tables e below (T47.setTop (mkF m 282 #[.val (.long vv), .second, .val (.long w1), .second, .val (.long w2), .second, .val (.int atRaw), .val (.int nRaw), .val (.int at_), .val (.int n), .val (.ref b2), .unset, .unset] [])) t → Steps p.tables e below (s₁.setTop (entryFrame m #[(.long vv), (.long w1), (.long w2), (.int atRaw), (.int nRaw)] maxLocals)) t := by
    intro t k
    refine pre46 t ?_
    show Steps p.tables e below (T45.setTop (mkF m 268 #[.val (.long vv), .second, .val (.long w1), .second, .val (.long w2), .second, .val (.int atRaw), .val (.int nRaw), .val (.int at_), .val (.int n), .val (.ref b2), .unset, .unset] [])) _
    refine XS.aload X45.here hx rfl (hb hby at_268) rfl rfl ?_
    show Steps p.tables e below (T45.setTop (mkF m 270 #[.val (.long vv), .second, .val (.long w1), .second, .val (.long w2), .second, .val (.int atRaw), .val (.int nRaw), .val (.int at_), .val (.int n), .val (.ref b2), .unset, .unset] [(.ref b2)])) _
    refine XS.iload X45.here hx rfl (hb hby at_270) rfl ?_
    show Steps p.tables e below (T45.setTop (mkF m 272 #[.val (.long vv), .second, .val (.long w1), .second, .val (.long w2), .second, .val (.int atRaw), .val (.int nRaw), .val (.int at_), .val (.int n), .val (.ref b2), .unset, .unset] [(.int at_), (.ref b2)])) _
    refine XS.bipush X45.here hx rfl (hb hby at_272) ?_
    show Steps p.tables e below (T45.setTop (mkF m 274 #[.val (.long vv), .second, .val (.long w1), .second, .val (.long w2), .second, .val (.int atRaw), .val (.int nRaw), .val (.int at_), .val (.int n), .val (.ref b2), .unset, .unset] [(.int (6 : Int32)), (.int at_), (.ref b2)])) _
    refine XS.iadd X45.here hx rfl (hb hby at_274) rfl ?_
    show Steps p.tables e below (T45.setTop (mkF m 275 #[.val (.long vv), .second, .val (.long w1), .second, .val (.long w2), .second, .val (.int atRaw), .val (.int nRaw), .val (.int at_), .val (.int n), .val (.ref b2), .unset, .unset] [(.int (at_ + (6 : Int32))), (.ref b2)])) _
    refine XS.lloadN X45.here hx rfl (hb hby at_275) rfl ?_
    show Steps p.tables e below (T45.setTop (mkF m 276 #[.val (.long vv), .second, .val (.long w1), .second, .val (.long w2), .second, .val (.int atRaw), .val (.int nRaw), .val (.int at_), .val (.int n), .val (.ref b2), .unset, .unset] [(.long vv), (.int (at_ + (6 : Int32))), (.ref b2)])) _
    refine XS.bipush X45.here hx rfl (hb hby at_276) ?_
    show Steps p.tables e below (T45.setTop (mkF m 278 #[.val (.long vv), .second, .val (.long w1), .second, .val (.long w2), .second, .val (.int atRaw), .val (.int nRaw), .val (.int at_), .val (.int n), .val (.ref b2), .unset, .unset] [(.int (48 : Int32)), (.long vv), (.int (at_ + (6 : Int32))), (.ref b2)])) _
    refine XS.lushr X45.here hx rfl (hb hby at_278) rfl ?_
    show Steps p.tables e below (T45.setTop (mkF m 279 #[.val (.long vv), .second, .val (.long w1), .second, .val (.long w2), .second, .val (.int atRaw), .val (.int nRaw), .val (.int at_), .val (.int n), .val (.ref b2), .unset, .unset] [(.long ((vv.toUInt64 >>> ((48 : Int32) &&& 0x3f).toInt64.toUInt64).toInt64)), (.int (at_ + (6 : Int32))), (.ref b2)])) _
    refine XS.l2i X45.here hx rfl (hb hby at_279) rfl ?_
    show Steps p.tables e below (T45.setTop (mkF m 280 #[.val (.long vv), .second, .val (.long w1), .second, .val (.long w2), .second, .val (.int atRaw), .val (.int nRaw), .val (.int at_), .val (.int n), .val (.ref b2), .unset, .unset] [(.int (((vv.toUInt64 >>> ((48 : Int32) &&& 0x3f).toInt64.toUInt64).toInt64).toInt32)), (.int (at_ + (6 : Int32))), (.ref b2)])) _
    refine XS.i2b X45.here hx rfl (hb hby at_280) rfl ?_
    show Steps p.tables e below (T45.setTop (mkF m 281 #[.val (.long vv), .second, .val (.long w1), .second, .val (.long w2), .second, .val (.int atRaw), .val (.int nRaw), .val (.int at_), .val (.int n), .val (.ref b2), .unset, .unset] [(.int ((((vv.toUInt64 >>> ((48 : Int32) &&& 0x3f).toInt64.toUInt64).toInt64).toInt32).toInt8.toInt32)), (.int (at_ + (6 : Int32))), (.ref b2)])) _
    refine st47 _ ?_
    exact k
  obtain ⟨c23, Ar23, Sz23, Hc23⟩ := B23
  obtain ⟨x23, u23, o23⟩ := own_idx (i := (7 : Int32)) (k := 7) ha rfl (by decide)
  have hin23 : ¬ ((at_ + (7 : Int32)) < 0 ∨ c23.slots.size ≤ ((at_ + (7 : Int32))).toNatClampNeg) := own_inb x23 u23 o23 Sz23
  obtain ⟨T49, h49, X49, e49, W49, st49⟩ := stB X47 hx hZ e47 Ar23 (j := (at_ + (7 : Int32))) hin23 (g := (mkF m 295 #[.val (.long vv), .second, .val (.long w1), .second, .val (.long w2), .second, .val (.int atRaw), .val (.int nRaw), .val (.int at_), .val (.int n), .val (.ref b2), .unset, .unset] [(.int ((((vv.toUInt64 >>> ((56 : Int32) &&& 0x3f).toInt64.toUInt64).toInt64).toInt32).toInt8.toInt32)), (.int (at_ + (7 : Int32))), (.ref b2)])) rfl rfl (hb hby at_295)
  obtain ⟨LL49, X49, N49⟩ := own_loc X49 (Fr.snoc X49 N47 g0b)
  rw [x23] at W49
  have B24 := own_wr Ar23 Sz23 Hc23 W49
  have S24 : n0 ≤ h49.size := Nat.le_trans S23 (Keep.of_wr W49).1
  have pre50 : ∀ t, Steps p.tables e below (T49.setTop (mkF m 296 #[.val (.long vv), .second, .val (.long w1), .second, .val (.long w2), .second, .val (.int atRaw), .val (.int nRaw), .val (.int at_), .val (.int n), .val (.ref b2), .unset, .unset] [])) t → Steps p.tables e below (s₁.setTop (entryFrame m #[(.long vv), (.long w1), (.long w2), (.int atRaw), (.int nRaw)] maxLocals)) t := by
    intro t k
    refine pre48 t ?_
    show Steps p.tables e below (T47.setTop (mkF m 282 #[.val (.long vv), .second, .val (.long w1), .second, .val (.long w2), .second, .val (.int atRaw), .val (.int nRaw), .val (.int at_), .val (.int n), .val (.ref b2), .unset, .unset] [])) _
    refine XS.aload X47.here hx rfl (hb hby at_282) rfl rfl ?_
    show Steps p.tables e below (T47.setTop (mkF m 284 #[.val (.long vv), .second, .val (.long w1), .second, .val (.long w2), .second, .val (.int atRaw), .val (.int nRaw), .val (.int at_), .val (.int n), .val (.ref b2), .unset, .unset] [(.ref b2)])) _
    refine XS.iload X47.here hx rfl (hb hby at_284) rfl ?_
    show Steps p.tables e below (T47.setTop (mkF m 286 #[.val (.long vv), .second, .val (.long w1), .second, .val (.long w2), .second, .val (.int atRaw), .val (.int nRaw), .val (.int at_), .val (.int n), .val (.ref b2), .unset, .unset] [(.int at_), (.ref b2)])) _
    refine XS.bipush X47.here hx rfl (hb hby at_286) ?_
    show Steps p.tables e below (T47.setTop (mkF m 288 #[.val (.long vv), .second, .val (.long w1), .second, .val (.long w2), .second, .val (.int atRaw), .val (.int nRaw), .val (.int at_), .val (.int n), .val (.ref b2), .unset, .unset] [(.int (7 : Int32)), (.int at_), (.ref b2)])) _
    refine XS.iadd X47.here hx rfl (hb hby at_288) rfl ?_
    show Steps p.tables e below (T47.setTop (mkF m 289 #[.val (.long vv), .second, .val (.long w1), .second, .val (.long w2), .second, .val (.int atRaw), .val (.int nRaw), .val (.int at_), .val (.int n), .val (.ref b2), .unset, .unset] [(.int (at_ + (7 : Int32))), (.ref b2)])) _
    refine XS.lloadN X47.here hx rfl (hb hby at_289) rfl ?_
    show Steps p.tables e below (T47.setTop (mkF m 290 #[.val (.long vv), .second, .val (.long w1), .second, .val (.long w2), .second, .val (.int atRaw), .val (.int nRaw), .val (.int at_), .val (.int n), .val (.ref b2), .unset, .unset] [(.long vv), (.int (at_ + (7 : Int32))), (.ref b2)])) _
    refine XS.bipush X47.here hx rfl (hb hby at_290) ?_
    show Steps p.tables e below (T47.setTop (mkF m 292 #[.val (.long vv), .second, .val (.long w1), .second, .val (.long w2), .second, .val (.int atRaw), .val (.int nRaw), .val (.int at_), .val (.int n), .val (.ref b2), .unset, .unset] [(.int (56 : Int32)), (.long vv), (.int (at_ + (7 : Int32))), (.ref b2)])) _
    refine XS.lushr X47.here hx rfl (hb hby at_292) rfl ?_
    show Steps p.tables e below (T47.setTop (mkF m 293 #[.val (.long vv), .second, .val (.long w1), .second, .val (.long w2), .second, .val (.int atRaw), .val (.int nRaw), .val (.int at_), .val (.int n), .val (.ref b2), .unset, .unset] [(.long ((vv.toUInt64 >>> ((56 : Int32) &&& 0x3f).toInt64.toUInt64).toInt64)), (.int (at_ + (7 : Int32))), (.ref b2)])) _
    refine XS.l2i X47.here hx rfl (hb hby at_293) rfl ?_
    show Steps p.tables e below (T47.setTop (mkF m 294 #[.val (.long vv), .second, .val (.long w1), .second, .val (.long w2), .second, .val (.int atRaw), .val (.int nRaw), .val (.int at_), .val (.int n), .val (.ref b2), .unset, .unset] [(.int (((vv.toUInt64 >>> ((56 : Int32) &&& 0x3f).toInt64.toUInt64).toInt64).toInt32)), (.int (at_ + (7 : Int32))), (.ref b2)])) _
    refine XS.i2b X47.here hx rfl (hb hby at_294) rfl ?_
    show Steps p.tables e below (T47.setTop (mkF m 295 #[.val (.long vv), .second, .val (.long w1), .second, .val (.long w2), .second, .val (.int atRaw), .val (.int nRaw), .val (.int at_), .val (.int n), .val (.ref b2), .unset, .unset] [(.int ((((vv.toUInt64 >>> ((56 : Int32) &&& 0x3f).toInt64.toUInt64).toInt64).toInt32).toInt8.toInt32)), (.int (at_ + (7 : Int32))), (.ref b2)])) _
    refine st49 _ ?_
    exact k
  obtain ⟨F, eF⟩ : ∃ F, F = (own_upd (own_upd (own_upd (own_upd (own_upd (own_upd (own_upd (own_upd f16 (at_.toNatClampNeg) (nar .byte (((vv.toInt32)).toInt8.toInt32))) (at_.toNatClampNeg + 1) (nar .byte (((((vv.toUInt64 >>> ((8 : Int32) &&& 0x3f).toInt64.toUInt64).toInt64).toInt32)).toInt8.toInt32))) (at_.toNatClampNeg + 2) (nar .byte (((((vv.toUInt64 >>> ((16 : Int32) &&& 0x3f).toInt64.toUInt64).toInt64).toInt32)).toInt8.toInt32))) (at_.toNatClampNeg + 3) (nar .byte (((((vv.toUInt64 >>> ((24 : Int32) &&& 0x3f).toInt64.toUInt64).toInt64).toInt32)).toInt8.toInt32))) (at_.toNatClampNeg + 4) (nar .byte (((((vv.toUInt64 >>> ((32 : Int32) &&& 0x3f).toInt64.toUInt64).toInt64).toInt32)).toInt8.toInt32))) (at_.toNatClampNeg + 5) (nar .byte (((((vv.toUInt64 >>> ((40 : Int32) &&& 0x3f).toInt64.toUInt64).toInt64).toInt32)).toInt8.toInt32))) (at_.toNatClampNeg + 6) (nar .byte (((((vv.toUInt64 >>> ((48 : Int32) &&& 0x3f).toInt64.toUInt64).toInt64).toInt32)).toInt8.toInt32))) (at_.toNatClampNeg + 7) (nar .byte (((((vv.toUInt64 >>> ((56 : Int32) &&& 0x3f).toInt64.toUInt64).toInt64).toInt32)).toInt8.toInt32))) := ⟨_, rfl⟩
  rw [← eF] at B24
  have y0 : F (at_.toNatClampNeg + 0) = (nar .byte (((vv.toInt32)).toInt8.toInt32)) := by rw [eF]; exact own_F0 _ _ _ _ _ _ _ _ _ _
  have y1 : F (at_.toNatClampNeg + 1) = (nar .byte (((((vv.toUInt64 >>> ((8 : Int32) &&& 0x3f).toInt64.toUInt64).toInt64).toInt32)).toInt8.toInt32)) := by rw [eF]; exact own_F1 _ _ _ _ _ _ _ _ _ _
  have y2 : F (at_.toNatClampNeg + 2) = (nar .byte (((((vv.toUInt64 >>> ((16 : Int32) &&& 0x3f).toInt64.toUInt64).toInt64).toInt32)).toInt8.toInt32)) := by rw [eF]; exact own_F2 _ _ _ _ _ _ _ _ _ _
  have y3 : F (at_.toNatClampNeg + 3) = (nar .byte (((((vv.toUInt64 >>> ((24 : Int32) &&& 0x3f).toInt64.toUInt64).toInt64).toInt32)).toInt8.toInt32)) := by rw [eF]; exact own_F3 _ _ _ _ _ _ _ _ _ _
  have y4 : F (at_.toNatClampNeg + 4) = (nar .byte (((((vv.toUInt64 >>> ((32 : Int32) &&& 0x3f).toInt64.toUInt64).toInt64).toInt32)).toInt8.toInt32)) := by rw [eF]; exact own_F4 _ _ _ _ _ _ _ _ _ _
  have y5 : F (at_.toNatClampNeg + 5) = (nar .byte (((((vv.toUInt64 >>> ((40 : Int32) &&& 0x3f).toInt64.toUInt64).toInt64).toInt32)).toInt8.toInt32)) := by rw [eF]; exact own_F5 _ _ _ _ _ _ _ _ _ _
  have y6 : F (at_.toNatClampNeg + 6) = (nar .byte (((((vv.toUInt64 >>> ((48 : Int32) &&& 0x3f).toInt64.toUInt64).toInt64).toInt32)).toInt8.toInt32)) := by rw [eF]; exact own_F6 _ _ _ _ _ _ _ _ _ _
  have y7 : F (at_.toNatClampNeg + 7) = (nar .byte (((((vv.toUInt64 >>> ((56 : Int32) &&& 0x3f).toInt64.toUInt64).toInt64).toInt32)).toInt8.toInt32)) := by rw [eF]; exact own_F7 _ _ _ _ _ _ _ _ _ _
  have pre51 : ∀ t, Steps p.tables e below (T49.setTop (mkF m 300 #[.val (.long vv), .second, .val (.long w1), .second, .val (.long w2), .second, .val (.int atRaw), .val (.int nRaw), .val (.int at_), .val (.int n), .val (.ref b2), .unset, .unset] [(.int (8 : Int32)), (.int n)])) t → Steps p.tables e below (s₁.setTop (entryFrame m #[(.long vv), (.long w1), (.long w2), (.int atRaw), (.int nRaw)] maxLocals)) t := by
    intro t k
    refine pre50 t ?_
    show Steps p.tables e below (T49.setTop (mkF m 296 #[.val (.long vv), .second, .val (.long w1), .second, .val (.long w2), .second, .val (.int atRaw), .val (.int nRaw), .val (.int at_), .val (.int n), .val (.ref b2), .unset, .unset] [])) _
    refine XS.iload X49.here hx rfl (hb hby at_296) rfl ?_
    show Steps p.tables e below (T49.setTop (mkF m 298 #[.val (.long vv), .second, .val (.long w1), .second, .val (.long w2), .second, .val (.int atRaw), .val (.int nRaw), .val (.int at_), .val (.int n), .val (.ref b2), .unset, .unset] [(.int n)])) _
    refine XS.bipush X49.here hx rfl (hb hby at_298) ?_
    exact k
  obtain ⟨ex, hs52, pre52⟩ : ∃ (ex : Int64), ((ex = vv ∧ n = (8 : Int32)) ∨ (ex = (vv &&& (((1 : Int64) <<< (((8 : Int32) * n) &&& 0x3f).toInt64) - (1 : Int64))) ∧ ¬ n = (8 : Int32))) ∧ ∀ t, Steps p.tables e below (T49.setTop (mkF m 322 #[.val (.long vv), .second, .val (.long w1), .second, .val (.long w2), .second, .val (.int atRaw), .val (.int nRaw), .val (.int at_), .val (.int n), .val (.ref b2), .val (.long ex), .second] [])) t → Steps p.tables e below (s₁.setTop (entryFrame m #[(.long vv), (.long w1), (.long w2), (.int atRaw), (.int nRaw)] maxLocals)) t := by
    by_cases c300 : n = (8 : Int32)
    · refine ⟨vv, Or.inl ⟨rfl, c300⟩, fun t k => pre51 t ?_⟩
      show Steps p.tables e below (T49.setTop (mkF m 300 #[.val (.long vv), .second, .val (.long w1), .second, .val (.long w2), .second, .val (.int atRaw), .val (.int nRaw), .val (.int at_), .val (.int n), .val (.ref b2), .unset, .unset] [(.int (8 : Int32)), (.int n)])) _
      refine XS.icmpNo X49.here hx rfl (hb hby at_300) rfl (teq c300).2 ?_
      show Steps p.tables e below (T49.setTop (mkF m 303 #[.val (.long vv), .second, .val (.long w1), .second, .val (.long w2), .second, .val (.int atRaw), .val (.int nRaw), .val (.int at_), .val (.int n), .val (.ref b2), .unset, .unset] [])) _
      refine XS.lloadN X49.here hx rfl (hb hby at_303) rfl ?_
      show Steps p.tables e below (T49.setTop (mkF m 304 #[.val (.long vv), .second, .val (.long w1), .second, .val (.long w2), .second, .val (.int atRaw), .val (.int nRaw), .val (.int at_), .val (.int n), .val (.ref b2), .unset, .unset] [(.long vv)])) _
      refine XS.lstore X49.here hx rfl (hb hby at_304) rfl (l' := #[.val (.long vv), .second, .val (.long w1), .second, .val (.long w2), .second, .val (.int atRaw), .val (.int nRaw), .val (.int at_), .val (.int n), .val (.ref b2), .val (.long vv), .second]) rfl ?_
      show Steps p.tables e below (T49.setTop (mkF m 306 #[.val (.long vv), .second, .val (.long w1), .second, .val (.long w2), .second, .val (.int atRaw), .val (.int nRaw), .val (.int at_), .val (.int n), .val (.ref b2), .val (.long vv), .second] [])) _
      refine XS.goto X49.here hx rfl (pc0 := 306) (pc' := 322) rfl (hb hby at_306) (by decide) (by decide) ?_
      exact k
    · refine ⟨(vv &&& (((1 : Int64) <<< (((8 : Int32) * n) &&& 0x3f).toInt64) - (1 : Int64))), Or.inr ⟨rfl, c300⟩, fun t k => pre51 t ?_⟩
      show Steps p.tables e below (T49.setTop (mkF m 300 #[.val (.long vv), .second, .val (.long w1), .second, .val (.long w2), .second, .val (.int atRaw), .val (.int nRaw), .val (.int at_), .val (.int n), .val (.ref b2), .unset, .unset] [(.int (8 : Int32)), (.int n)])) _
      refine XS.icmpYes X49.here hx rfl (pc0 := 300) (pc' := 309) rfl (hb hby at_300) rfl (feq c300).2 (by decide) (by decide) ?_
      show Steps p.tables e below (T49.setTop (mkF m 309 #[.val (.long vv), .second, .val (.long w1), .second, .val (.long w2), .second, .val (.int atRaw), .val (.int nRaw), .val (.int at_), .val (.int n), .val (.ref b2), .unset, .unset] [])) _
      refine XS.lloadN X49.here hx rfl (hb hby at_309) rfl ?_
      show Steps p.tables e below (T49.setTop (mkF m 310 #[.val (.long vv), .second, .val (.long w1), .second, .val (.long w2), .second, .val (.int atRaw), .val (.int nRaw), .val (.int at_), .val (.int n), .val (.ref b2), .unset, .unset] [(.long vv)])) _
      refine XS.lconst X49.here hx rfl (hb hby at_310) ?_
      show Steps p.tables e below (T49.setTop (mkF m 311 #[.val (.long vv), .second, .val (.long w1), .second, .val (.long w2), .second, .val (.int atRaw), .val (.int nRaw), .val (.int at_), .val (.int n), .val (.ref b2), .unset, .unset] [(.long (1 : Int64)), (.long vv)])) _
      refine XS.bipush X49.here hx rfl (hb hby at_311) ?_
      show Steps p.tables e below (T49.setTop (mkF m 313 #[.val (.long vv), .second, .val (.long w1), .second, .val (.long w2), .second, .val (.int atRaw), .val (.int nRaw), .val (.int at_), .val (.int n), .val (.ref b2), .unset, .unset] [(.int (8 : Int32)), (.long (1 : Int64)), (.long vv)])) _
      refine XS.iload X49.here hx rfl (hb hby at_313) rfl ?_
      show Steps p.tables e below (T49.setTop (mkF m 315 #[.val (.long vv), .second, .val (.long w1), .second, .val (.long w2), .second, .val (.int atRaw), .val (.int nRaw), .val (.int at_), .val (.int n), .val (.ref b2), .unset, .unset] [(.int n), (.int (8 : Int32)), (.long (1 : Int64)), (.long vv)])) _
      refine XS.imul X49.here hx rfl (hb hby at_315) rfl ?_
      show Steps p.tables e below (T49.setTop (mkF m 316 #[.val (.long vv), .second, .val (.long w1), .second, .val (.long w2), .second, .val (.int atRaw), .val (.int nRaw), .val (.int at_), .val (.int n), .val (.ref b2), .unset, .unset] [(.int ((8 : Int32) * n)), (.long (1 : Int64)), (.long vv)])) _
      refine XS.lshl X49.here hx rfl (hb hby at_316) rfl ?_
      show Steps p.tables e below (T49.setTop (mkF m 317 #[.val (.long vv), .second, .val (.long w1), .second, .val (.long w2), .second, .val (.int atRaw), .val (.int nRaw), .val (.int at_), .val (.int n), .val (.ref b2), .unset, .unset] [(.long ((1 : Int64) <<< (((8 : Int32) * n) &&& 0x3f).toInt64)), (.long vv)])) _
      refine XS.lconst X49.here hx rfl (hb hby at_317) ?_
      show Steps p.tables e below (T49.setTop (mkF m 318 #[.val (.long vv), .second, .val (.long w1), .second, .val (.long w2), .second, .val (.int atRaw), .val (.int nRaw), .val (.int at_), .val (.int n), .val (.ref b2), .unset, .unset] [(.long (1 : Int64)), (.long ((1 : Int64) <<< (((8 : Int32) * n) &&& 0x3f).toInt64)), (.long vv)])) _
      refine XS.lsub X49.here hx rfl (hb hby at_318) rfl ?_
      show Steps p.tables e below (T49.setTop (mkF m 319 #[.val (.long vv), .second, .val (.long w1), .second, .val (.long w2), .second, .val (.int atRaw), .val (.int nRaw), .val (.int at_), .val (.int n), .val (.ref b2), .unset, .unset] [(.long (((1 : Int64) <<< (((8 : Int32) * n) &&& 0x3f).toInt64) - (1 : Int64))), (.long vv)])) _
      refine XS.land X49.here hx rfl (hb hby at_319) rfl ?_
      show Steps p.tables e below (T49.setTop (mkF m 320 #[.val (.long vv), .second, .val (.long w1), .second, .val (.long w2), .second, .val (.int atRaw), .val (.int nRaw), .val (.int at_), .val (.int n), .val (.ref b2), .unset, .unset] [(.long (vv &&& (((1 : Int64) <<< (((8 : Int32) * n) &&& 0x3f).toInt64) - (1 : Int64))))])) _
      refine XS.lstore X49.here hx rfl (hb hby at_320) rfl (l' := #[.val (.long vv), .second, .val (.long w1), .second, .val (.long w2), .second, .val (.int atRaw), .val (.int nRaw), .val (.int at_), .val (.int n), .val (.ref b2), .val (.long (vv &&& (((1 : Int64) <<< (((8 : Int32) * n) &&& 0x3f).toInt64) - (1 : Int64)))), .second]) rfl ?_
      exact k
  obtain ⟨_, _, ⟨T53, L53, k53, n53⟩, -, X53, ⟨Lc53, hQ53, l53, y53, z53⟩, st53⟩ := Jvm.LawKit.callS X49 hx (y := (⟨"com/example/strict_wire/strictwire/codec/LittleEndian", "unsigned", "([BII)J"⟩ : MethodName)) hown (mvT hZ (hw _ (List.mem_of_getElem? (i := 2) rfl))) (mvT hZ (hw _ (List.mem_of_getElem? (i := 3) rfl))) (mvT hZ (hw _ (List.mem_of_getElem? (i := 4) rfl))) (mvT hZ (hw _ (List.mem_of_getElem? (i := 5) rfl))) (by decide) (backOf (W := 0) (rmU l Z a0 hw [] b2 at_ n F h49 n0 S24 B24 ha hn) hZ (hw _ (List.mem_of_getElem? (i := 5) rfl)) (hw _ (List.mem_of_getElem? (i := 4) rfl)) (by decide) (by decide)) (g := (mkF m 328 #[.val (.long vv), .second, .val (.long w1), .second, .val (.long w2), .second, .val (.int atRaw), .val (.int nRaw), .val (.int at_), .val (.int n), .val (.ref b2), .val (.long ex), .second] [(.int n), (.int at_), (.ref b2)])) rfl (by rw [hml]; rfl) (argsL := [(.ref b2), (.int at_), (.int n)]) (rest := []) (lenOf pd_0 rfl) rfl (by show 2 * 0 + _ ≤ _; exact Nat.le_of_eq rfl) (hb hby at_328) (fun _ _ => ⟨rfl, e49, (by decide : 1 + 0 ≤ _), (by decide : 16 + 0 ≤ _)⟩)
  dsimp only [Pt.U, Pt.locs, Pt.cells, Pt.slots] at X53 l53 y53 z53 st53 hQ53
  subst l53 y53 z53
  obtain ⟨rfl, N53q, e53⟩ := hQ53
  have N53 := Fr.app N49 N53q
  obtain ⟨fs, hr, hrun, hended, hW, hsame⟩ := X53.leave (v := some (.int (1 : Int32))) (fun h => by rw [Bd.returns] at h; cases h) (hlocks := BodyLoose.notSynchronized Bd)
  refine ⟨_, _, pre52 _ ?_, hrun, hended, _, _, rfl, ?_, ⟨_, rfl⟩, hW, hsame.mono (by decide) (by decide)⟩
  · show Steps p.tables e below (T49.setTop (mkF m 322 #[.val (.long vv), .second, .val (.long w1), .second, .val (.long w2), .second, .val (.int atRaw), .val (.int nRaw), .val (.int at_), .val (.int n), .val (.ref b2), .val (.long ex), .second] [])) _
    refine XS.aload X49.here hx rfl (hb hby at_322) rfl rfl ?_
    show Steps p.tables e below (T49.setTop (mkF m 324 #[.val (.long vv), .second, .val (.long w1), .second, .val (.long w2), .second, .val (.int atRaw), .val (.int nRaw), .val (.int at_), .val (.int n), .val (.ref b2), .val (.long ex), .second] [(.ref b2)])) _
    refine XS.iload X49.here hx rfl (hb hby at_324) rfl ?_
    show Steps p.tables e below (T49.setTop (mkF m 326 #[.val (.long vv), .second, .val (.long w1), .second, .val (.long w2), .second, .val (.int atRaw), .val (.int nRaw), .val (.int at_), .val (.int n), .val (.ref b2), .val (.long ex), .second] [(.int at_), (.ref b2)])) _
    refine XS.iload X49.here hx rfl (hb hby at_326) rfl ?_
    show Steps p.tables e below (T49.setTop (mkF m 328 #[.val (.long vv), .second, .val (.long w1), .second, .val (.long w2), .second, .val (.int atRaw), .val (.int nRaw), .val (.int at_), .val (.int n), .val (.ref b2), .val (.long ex), .second] [(.int n), (.int at_), (.ref b2)])) _
    refine st53 _ ?_
    show Steps p.tables e below (T53.setTop (mkF m 331 #[.val (.long vv), .second, .val (.long w1), .second, .val (.long w2), .second, .val (.int atRaw), .val (.int nRaw), .val (.int at_), .val (.int n), .val (.ref b2), .val (.long ex), .second] [(.long (own_acc F at_.toNatClampNeg n.toNatClampNeg 0))])) _
    refine XS.lload X53.here hx rfl (hb hby at_331) rfl ?_
    show Steps p.tables e below (T53.setTop (mkF m 333 #[.val (.long vv), .second, .val (.long w1), .second, .val (.long w2), .second, .val (.int atRaw), .val (.int nRaw), .val (.int at_), .val (.int n), .val (.ref b2), .val (.long ex), .second] [(.long ex), (.long (own_acc F at_.toNatClampNeg n.toNatClampNeg 0))])) _
    refine XS.lcmp X53.here hx rfl (hb hby at_333) rfl ?_
    show Steps p.tables e below (T53.setTop (mkF m 334 #[.val (.long vv), .second, .val (.long w1), .second, .val (.long w2), .second, .val (.int atRaw), .val (.int nRaw), .val (.int at_), .val (.int n), .val (.ref b2), .val (.long ex), .second] [(.int (lcmpW (own_acc F at_.toNatClampNeg n.toNatClampNeg 0) ex))])) _
    refine XS.ifNo X53.here hx rfl (hb hby at_334) rfl ((if0 _ _).trans (teq ((lw_eq _ _).mpr (own_law vv F at_.toNatClampNeg n ex hn y0 y1 y2 y3 y4 y5 y6 y7 hs52))).2) ?_
    show Steps p.tables e below (T53.setTop (mkF m 337 #[.val (.long vv), .second, .val (.long w1), .second, .val (.long w2), .second, .val (.int atRaw), .val (.int nRaw), .val (.int at_), .val (.int n), .val (.ref b2), .val (.long ex), .second] [])) _
    refine XS.iconst X53.here hx rfl (hb hby at_337) ?_
    show Steps p.tables e below (T53.setTop (mkF m 338 #[.val (.long vv), .second, .val (.long w1), .second, .val (.long w2), .second, .val (.int atRaw), .val (.int nRaw), .val (.int at_), .val (.int n), .val (.ref b2), .val (.long ex), .second] [(.int (1 : Int32))])) _
    refine XS.goto X53.here hx rfl (pc0 := 338) (pc' := 342) rfl (hb hby at_338) (by decide) (by decide) ?_
    show Steps p.tables e below (T53.setTop (mkF m 342 #[.val (.long vv), .second, .val (.long w1), .second, .val (.long w2), .second, .val (.int atRaw), .val (.int nRaw), .val (.int at_), .val (.int n), .val (.ref b2), .val (.long ex), .second] [(.int (1 : Int32))])) _
    exact retN X53 hx (t := .boolean) Bd.returns (by simp) (hb hby at_342) hr
  · show Q0 Z vv w1 w2 atRaw nRaw h0 n0 _ T53.heap _
    rw [e53]
    exact ⟨rfl, N53⟩
set_option maxRecDepth 65536 in
set_option maxHeartbeats 40000000 in
theorem comes_1 {Post : Tables → Env → Array Value → State → Outcome → State → Prop} (hpost : ∀ tb e args s v u, (limb_1_1.after args s (.returned v) u = true ∧ limb_1_2.after args s (.returned v) u = true ∧ True) → FrameEnd s (.returned v) u (Jvm.fieldLocs frame_1_writes args s ++ Jvm.arrayLocs frame_1_arrays args s ++ Jvm.staticLocs frame_1_statics s) 16 128 → Post tb e args s (.returned v) u) :
    ArmFor flags0 classFile x code maxLocals ret World_1 tables_1 room_1 Calls_1 rest_1 Pre_1 Post := by
  intro l hfl _ _ p e ha hc hk s m args below hf hA hF happ hP
  obtain ⟨hcalls, hrest, hpre⟩ := hP
  obtain ⟨-, -, -, hnamed, -, -, -, hat⟩ := (Spec.applies_iff hf).mp happ
  obtain ⟨hg, hn⟩ := and_e (Cond.before_iff.mp (show (Jvm.Cond.and given_1 narrow_1).before args s = true from hpre))
  obtain ⟨hcount, r0⟩ := and_e hg
  obtain ⟨v0, r1⟩ := and_e r0
  obtain ⟨v1, r2⟩ := and_e r1
  obtain ⟨v2, r3⟩ := and_e r2
  obtain ⟨v3, r4⟩ := and_e r3
  obtain ⟨w0, w1, w2, w3, w4, rfl⟩ : ∃ w0 w1 w2 w3 w4 : Value, args = #[w0, w1, w2, w3, w4] := by
    have hs : args.size = 5 := by simpa [Cond.value, given_1] using hcount
    obtain ⟨L⟩ := args
    match L, hs with
    | [w0, w1, w2, w3, w4], _ => exact ⟨w0, w1, w2, w3, w4, rfl⟩
  have hw := fun d (hd : d ∈ tables_1) => atoms_spec (ws := Jvm.Cond.code x code maxLocals ret :: tables_1) hat d (List.mem_cons_of_mem _ hd)
  obtain ⟨i0, ei0⟩ := isL_v v0
  obtain rfl : w0 = (.long i0) := Option.some.inj ei0
  obtain ⟨i1, ei1⟩ := isL_v v1
  obtain rfl : w1 = (.long i1) := Option.some.inj ei1
  obtain ⟨i2, ei2⟩ := isL_v v2
  obtain rfl : w2 = (.long i2) := Option.some.inj ei2
  obtain ⟨i3, ei3⟩ := is_v v3
  obtain rfl : w3 = (.int i3) := Option.some.inj ei3
  obtain ⟨i4, ei4⟩ := is_v r4
  obtain rfl : w4 = (.int i4) := Option.some.inj ei4
  obtain ⟨n, o, h1, h2, h3, _, L, rfl, ⟨rfl, N⟩, hq⟩ := rm0 l s _ hw tables_1 i0 i1 i2 i3 i4 s.heap s.heap.size (Nat.le_refl _) p e ha hc hk s m _ below hf ((Spec.applies_iff_loose hf).mp happ).1 ⟨rfl, State.Warmed39.refl s, rfl⟩ trivial
  refine ⟨n, _, h1, h2, h3, hpost _ _ _ _ _ _ ⟨Cond.after_iff.mpr rfl, Cond.after_iff.mpr (eq_i res_at (Term.int_eval (1)) rfl), trivial⟩ ⟨hq.1, hq.2.1, (hq.2.2.sift fun y hy => Or.inr (N y hy)).mono (by decide) (by decide)⟩⟩
theorem main_1_1 : Claimed_1_1 := comes_1 fun _ _ _ _ _ _ h hF => ⟨h.1, hF⟩
theorem main_1_2 : Claimed_1_2 := comes_1 fun _ _ _ _ _ _ h hF => ⟨h.2.1, hF⟩
end Jvm.Pilot.@@N@@
namespace Jvm.Pilot.@@N@@
open Jvm Jvm.ClassFile Sem Op Lib Jvm.Free Jvm.Stand Jvm.Pilot.@@N@@.Jvm.D
/-! MADE BY PROGRAM (witnessworld.py) out of the Statement's table words and the real class files: 9 classes; the members and pool entries that the words name. The judged class is class 1, her method 1. -/
namespace start1
open Jvm.ClassFile
def u (s : String) : CpInfo := .utf8 (stringToUtf16 s)
/-- a pool by its gaps: so many unusable entries, then the entry; so many at the end -/
def gap : Nat → List CpInfo → List CpInfo
  | 0, r => r
  | n + 1, r => .unusable :: gap n r
def poolList (es : List (Nat × CpInfo)) (last : Nat) : List CpInfo := es.foldr (fun e r => gap e.1 (e.2 :: r)) (gap last [])
def pool (es : List (Nat × CpInfo)) (last : Nat) : Array CpInfo := ⟨poolList es last⟩
def fileOf (pool : Array CpInfo) (this : Nat) (attrs : Array Attribute := #[]) (ms : Array MethodInfo := #[]) (fl : Nat := 33) (sup : Nat := 0) (ifs : Array Nat := #[]) (fds : Array FieldInfo := #[]) : ClassFile where
  minorVersion := 0
  majorVersion := 65
  constantPool := pool
  accessFlags := fl
  thisClass := this
  superClass := sup
  interfaces := ifs
  fields := fds
  methods := ms
  attributes := attrs
def plain (name : String) (sup : Option ClassId) : Class where
  name := name
  kind := .ordinary
  loader := none
  accessFlags := 33
  super := sup
  interfaces := #[]
  cf := none
  fields := #[]
  methods := #[]
  instanceTypes := #[]
  staticTypes := #[]
  resolved := #[]
  callSites := []
  init := .initialized
  statics := none
  mirror := none

def pool0 : Array CpInfo := pool [(5, u "<init>"), (0, u "()V"), (1, .class_ 10), (1, u "java/lang/Object")] 113

def k0m0 : Method := { name := "<init>", desc := "()V", sig := { parameters := [], returnType := none }, accessFlags := 1, code := none }
/-- java/lang/Object -/
def k0 : Class := { plain "java/lang/Object" none with
  accessFlags := 33
  interfaces := #[]
  cf := some (fileOf pool0 8 #[] #[{ accessFlags := 1, nameIndex := 5, descriptorIndex := 6, attributes := #[] }] 33 0 #[] #[])
  fields := #[]
  methods := #[k0m0]
  instanceTypes := #[]
  staticTypes := #[]
  resolved := Array.replicate 124 none
  statics := none }

def pool1 : Array CpInfo := pool [(2, .class_ 4), (1, u "java/lang/Object"), (0, u "<init>"), (0, u "()V"), (0, .integer 2147483647), (0, .methodref 9 10), (0, .class_ 11), (0, .nameAndType 12 13), (0, u "com/example/strict_wire/strictwire/codec/LittleEndian"), (0, u "unsigned"), (0, u "([BII)J"), (0, .class_ 15), (0, u "com/example/strict_wire/strictwire/codec/LittleEndianUnsignedPinLaw"), (2, u "law"), (0, u "(JJJII)Z")] 5

def k1m0 : Method := { name := "<init>", desc := "()V", sig := { parameters := [], returnType := none }, accessFlags := 2, code := none }
def k1c1 : Code := { maxStack := 6, maxLocals := 13, code := code, exceptionTable := #[], attributes := #[] }
def k1m1 : Method := { name := "law", desc := "(JJJII)Z", sig := { parameters := [.long, .long, .long, .int, .int], returnType := some .boolean }, accessFlags := 9, code := some k1c1 }
/-- com/example/strict_wire/strictwire/codec/LittleEndianUnsignedPinLaw -/
def k1 : Class := { plain "com/example/strict_wire/strictwire/codec/LittleEndianUnsignedPinLaw" (some 0) with
  accessFlags := 49
  interfaces := #[]
  cf := some (fileOf pool1 14 #[] #[{ accessFlags := 2, nameIndex := 5, descriptorIndex := 6, attributes := #[] }, { accessFlags := 9, nameIndex := 18, descriptorIndex := 19, attributes := #[] }] 49 2 #[] #[])
  fields := #[]
  methods := #[k1m0, k1m1]
  instanceTypes := #[]
  staticTypes := #[]
  resolved := Array.replicate 25 none
  statics := none }

def pool2 : Array CpInfo := pool [(2, .class_ 4), (1, u "java/lang/Object"), (0, u "<init>"), (0, u "()V"), (17, .class_ 26), (1, u "com/example/strict_wire/strictwire/codec/LittleEndian"), (0, u "INT32"), (0, u "Ljava/lang/invoke/VarHandle;"), (2, u "unsigned"), (0, u "([BII)J")] 4

def k2m0 : Method := { name := "<init>", desc := "()V", sig := { parameters := [], returnType := none }, accessFlags := 2, code := none }
def k2c1 : Code := { maxStack := 5, maxLocals := 6, code := prog_23_method_2_code, exceptionTable := #[], attributes := #[] }
def k2m1 : Method := { name := "unsigned", desc := "([BII)J", sig := { parameters := [(.array .byte), .int, .int], returnType := some .long }, accessFlags := 8, code := some k2c1 }
/-- com/example/strict_wire/strictwire/codec/LittleEndian -/
def k2 : Class := { plain "com/example/strict_wire/strictwire/codec/LittleEndian" (some 0) with
  accessFlags := 48
  interfaces := #[]
  cf := some (fileOf pool2 24 #[] #[{ accessFlags := 2, nameIndex := 5, descriptorIndex := 6, attributes := #[] }, { accessFlags := 8, nameIndex := 31, descriptorIndex := 32, attributes := #[] }] 48 2 #[] #[{ accessFlags := 24, nameIndex := 27, descriptorIndex := 28, attributes := #[] }])
  fields := #[{ name := "INT32", type := (.object "java/lang/invoke/VarHandle"), accessFlags := 24, slot := 0, constantValue := 0 }]
  methods := #[k2m0, k2m1]
  instanceTypes := #[]
  staticTypes := #[(.object "java/lang/invoke/VarHandle")]
  resolved := Array.replicate 37 none
  statics := none }

def pool3 : Array CpInfo := pool [(1, u "java/lang/Cloneable"), (0, .class_ 1), (0, u "java/lang/Object"), (0, .class_ 3)] 3

/-- java/lang/Cloneable -/
def k3 : Class := { plain "java/lang/Cloneable" (some 0) with
  accessFlags := 1537
  interfaces := #[]
  cf := some (fileOf pool3 2 #[] #[] 1537 4 #[] #[])
  fields := #[]
  methods := #[]
  instanceTypes := #[]
  staticTypes := #[]
  resolved := Array.replicate 8 none
  statics := none }

def pool4 : Array CpInfo := pool [(1, u "java/io/Serializable"), (0, .class_ 1), (0, u "java/lang/Object"), (0, .class_ 3)] 3

/-- java/io/Serializable -/
def k4 : Class := { plain "java/io/Serializable" (some 0) with
  accessFlags := 1537
  interfaces := #[]
  cf := some (fileOf pool4 2 #[] #[] 1537 4 #[] #[])
  fields := #[]
  methods := #[]
  instanceTypes := #[]
  staticTypes := #[]
  resolved := Array.replicate 8 none
  statics := none }

/-- the primitive byte -/
def k5 : Class := { plain "byte" none with kind := .primitive 'B', accessFlags := 0x411 }
/-- [B -/
def k6 : Class := { plain "[B" (some 0) with kind := .array 5 .byte, interfaces := #[3, 4], accessFlags := 1041 }

/-- the primitive int -/
def k7 : Class := { plain "int" none with kind := .primitive 'I', accessFlags := 0x411 }
/-- [I -/
def k8 : Class := { plain "[I" (some 0) with kind := .array 7 .int, interfaces := #[3, 4], accessFlags := 1041 }

def heap : Heap := #[]
def classes : Array Class := #[k0, k1, k2, k3, k4, k5, k6, k7, k8]
def interned : List (Array UInt16 × Addr) := []
def slotsUsed : Nat := 0
def theMethod : MethodId := ⟨1, 1⟩
def args0 : Array Value := #[.long 1, .long 2, .long 3, .int 4, .int 5]
def aboutOver (below : List Frame) : State where
  vm := { classes := classes, interned := interned.toArray }
  heap := heap
  slotsUsed := slotsUsed
  threads := #[{ frames := .invoking theMethod args0 :: below }]
def below0 : List Frame := [.native { method := ⟨0, 0⟩, args := #[] }]
def about1 : State := aboutOver below0
def p0 : Program := .bare "" "" ""
def e0 : Env := launch0.env 0 0 0
theorem w_frames : about1.frames = Frame.invoking theMethod args0 :: below0 := rfl
set_option maxRecDepth 65536 in
theorem w_args : argsFit about1.vm theMethod args0 = true := by decide +kernel
set_option maxRecDepth 65536 in
theorem w_heap : heapFits about1 = true := by decide +kernel
set_option maxRecDepth 65536 in
theorem w_runnable : about1.curStatus? = some .runnable := by decide +kernel
set_option maxRecDepth 65536 in
theorem w_alone : about1.alone = true := by decide +kernel
set_option maxRecDepth 65536 in
theorem w_named : about1.methodNamed? x = some theMethod := by decide +kernel
set_option maxRecDepth 65536 in
theorem w_hears : about1.hears theMethod below0 = true := by decide +kernel
set_option maxRecDepth 65536 in
theorem w_ripe : about1.ripe theMethod args0 below0 = true := by decide +kernel
theorem w_running : about1.status = .running := rfl
set_option maxRecDepth 65536 in
theorem w_room : about1.hasRoom e0.platform room_1 = true :=
  launch0.hasRoom_least _ room_1 (by decide +kernel) (by decide +kernel) (by decide +kernel) (by decide +kernel) (by decide +kernel) (by decide +kernel)
theorem allAtoms_all (ts : List Jvm.Cond) (a : Array Jvm.Value) (st : Jvm.State) : (allAtoms ts).before a st = ts.all (fun c => c.before a st) := by
  induction ts with
  | nil => rfl
  | cons c t ih =>
    show (Jvm.Cond.and c (allAtoms t)).before a st = _
    rw [Jvm.Cond.before_and, ih, List.all_cons]
def words1 : List Jvm.Cond := Jvm.Cond.code x code maxLocals ret :: tables_1
/-- a 'code' word, met by the world's own term for the bytes: nothing is compared byte by byte -/
theorem code_word {y : MethodName} {bytes : ByteArray} {mx : Nat} {rt : Option FieldType} {a : Array Value} {s : State} {m : MethodId} {meth : Method} {c : Code} (h1 : s.methodNamed? y = some m) (h2 : s.vm.method? m = some meth) (h3 : meth.code = some c) (h4 : c.code = bytes)
    (h5 : (c.maxLocals == mx && c.exceptionTable.isEmpty && decide (c.maxStack ≤ mostOperands) && decide (meth.sig.returnType = rt) && !meth.locks && decide (parseMethodDescriptor y.desc = some meth.sig)) = true) : (Jvm.Cond.code y bytes mx rt).before a s = true := by
  simp only [Bool.and_eq_true, beq_iff_eq, Bool.not_eq_true', decide_eq_true_eq] at h5
  obtain ⟨⟨⟨⟨⟨g1, g2⟩, g3⟩, g4⟩, g5⟩, g6⟩ := h5
  simp [Cond.before, Cond.holds, Cond.value, h1, h2, h3, h4, g1, g2, g3, g4, g5, g6]
def isCode : Jvm.Cond → Bool
  | .code _ _ _ _ => true
  | _ => false
theorem all_split {L : List Jvm.Cond} {P : Jvm.Cond → Bool} (h1 : L.all (fun c => isCode c || P c) = true) (h2 : ∀ c ∈ L.filter isCode, P c = true) : L.all P = true := by
  refine List.all_eq_true.mpr fun c hc => ?_
  have h := List.all_eq_true.mp h1 c hc
  rcases Bool.eq_false_or_eq_true (isCode c) with hi | hi
  · exact h2 c (List.mem_filter.mpr ⟨hc, hi⟩)
  · simpa [hi] using h
set_option maxRecDepth 65536 in
theorem w_c0 : (Jvm.Cond.code x code maxLocals ret).before args0 about1 = true := code_word (m := ⟨1, 1⟩) (meth := k1m1) (c := k1c1) (by decide +kernel) rfl rfl rfl (by decide +kernel)
set_option maxRecDepth 65536 in
theorem w_c1 : (Jvm.Cond.code ({ cls := "com/example/strict_wire/strictwire/codec/LittleEndian", name := "unsigned", desc := "([BII)J" } : Jvm.MethodName) prog_23_method_2_code (6 : Nat) (Option.some Jvm.ClassFile.FieldType.long)).before args0 about1 = true := code_word (m := ⟨2, 1⟩) (meth := k2m1) (c := k2c1) (by decide +kernel) rfl rfl rfl (by decide +kernel)
def codes1 : List Jvm.Cond := [Jvm.Cond.code x code maxLocals ret, Jvm.Cond.code ({ cls := "com/example/strict_wire/strictwire/codec/LittleEndian", name := "unsigned", desc := "([BII)J" } : Jvm.MethodName) prog_23_method_2_code (6 : Nat) (Option.some Jvm.ClassFile.FieldType.long)]
set_option maxRecDepth 65536 in
theorem codes_eq : words1.filter isCode = codes1 := rfl
theorem w_codes : ∀ c ∈ words1.filter isCode, c.before args0 about1 = true := by
  rw [codes_eq]
  intro c hc
  simp only [codes1, List.mem_cons, List.not_mem_nil, or_false] at hc
  rcases hc with rfl | rfl
  · exact w_c0
  · exact w_c1
set_option maxRecDepth 65536 in
theorem w_t1 : words1.all (fun c => isCode c || c.before args0 about1) = true := by decide +kernel
theorem w_tables : (allAtoms (Jvm.Cond.code x code maxLocals ret :: tables_1)).before args0 about1 = true := by
  rw [allAtoms_all]
  show words1.all (fun c => c.before args0 about1) = true
  refine all_split ?_ w_codes
  rw [w_t1]
set_option maxRecDepth 65536 in
theorem w_case : (Jvm.Cond.and given_1 narrow_1).before args0 about1 = true := by decide +kernel
theorem w_applies : (headSpec (Jvm.Cond.code x code maxLocals ret :: tables_1) room_1).applies x e0.platform about1 = true :=
  (Spec.applies_iff w_frames).mpr ⟨w_running, w_runnable, w_alone, w_named, w_hears, w_ripe, w_room, w_tables⟩
theorem atStart : AtStart classFile x code maxLocals ret World_1 tables_1 room_1 Calls_1 rest_1 Pre_1 launch0 p0 e0 about1 theMethod args0 below0 :=
  ⟨lists_1, trivial, launch0.admits_env _ _ _, launch0.least_env, fairChoices_fair.cas, fairChoices_fair.clock, w_frames, w_args, w_heap, w_applies, trivial, trivial, w_case⟩
end start1
theorem witness_1 : WitnessClaimed_1 := ⟨start1.p0, start1.e0, start1.about1, start1.theMethod, start1.args0, start1.below0, start1.atStart⟩
end Jvm.Pilot.@@N@@
