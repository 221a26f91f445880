import JvmDerived
import JvmDerived.Pilot.@@N@@Statement
import JvmDerived.Pilot.@@N@@Code
set_option linter.unusedVariables false
set_option linter.unusedSimpArgs false
namespace Jvm.RoadKit
open Sem ClassFile Op Lib Jvm.Stand Jvm.Free Jvm.LawKit
section New
variable {p : Program} {l : Launch} {e : Env} {R : Room} {s : State} {m : MethodId} {args : Array Value} {below : List Frame} {meth : Method} {c : Code} {T : State} {locs : List Loc} {cells slots : Nat}
theorem retI (X : Stand p l e R s m args below meth c T locs cells slots) (hx : p.tables.exec = Jvm.exec) {pc : Nat} {Ls : Array Slot} {z : Int32} {rest : List Value} (hret : meth.sig.returnType = some .int) (hd : decode c.code pc = .ok (.ireturn, 1)) {fs : List Frame}
    (hl : ∀ (f : JFrame) (acts : List Action), f.method = m → f.locked = none → f.entered = [] → (doReturn e (T.setTop f) acts (some (.int z))).1 = T.setFrames fs) : Steps p.tables e below (T.setTop (mkF m pc Ls (.int z :: rest))) (T.setFrames fs) := by
  have hm' : T.vm.method? m = some meth := X.method'
  have hn : narrow .int (.int z) = .int z := rfl
  show Steps p.tables e below (T.setTop { method := m, pc := pc, locals := Ls, stack := _ :: rest, locked := none }) _
  jvm_step X.here [X.here.top, hx, hd, hm', hret, hn]
  first | (intro acts; rw [hl _ acts rfl rfl rfl]) | rw [hl _ _ rfl rfl rfl]
  exact Steps.refl _
end New
end Jvm.RoadKit
namespace Jvm.Pilot.@@N@@
open Jvm Jvm.ClassFile Sem Op Lib Jvm.Free Jvm.Stand Jvm.LawKit Jvm.RoadKit Bundle Jvm.Pilot.@@N@@.Jvm.D
/-! arrays of ints by what their places hold; the object by its fields and arrays -/
def own_IA (Z : State) (h : Heap) (t : Addr) (N : Nat) (f : Nat → Int32) : Prop := ∃ c : Cell, Arr Z h t c .int ∧ c.slots.size = N ∧ ∀ j, j < N → c.slots[j]? = some (.int (f j))
def own_IX (Z : State) (h : Heap) (t : Addr) (N : Nat) : Prop := ∃ c : Cell, Arr Z h t c .int ∧ c.slots.size = N
def own_upd (f : Nat → Int32) (i : Nat) (y : Int32) : Nat → Int32 := fun j => if j = i then y else f j
theorem own_upd_same (f : Nat → Int32) (i : Nat) (y : Int32) : own_upd f i y i = y := if_pos rfl
theorem own_upd_ne (f : Nat → Int32) {i j : Nat} (y : Int32) (h : j ≠ i) : own_upd f i y j = f j := if_neg h
section OwnFacts
variable {Z : State} {h h' : Heap} {t a : Addr} {N sl : Nat} {f : Nat → Int32} {v : Value} {C : String}
theorem own_IA_ix (A : own_IA Z h t N f) : own_IX Z h t N := by obtain ⟨c, A, S, -⟩ := A; exact ⟨c, A, S⟩
theorem own_IA_ext (A : own_IA Z h t N f) (E : Ext h h') : own_IA Z h' t N f := by obtain ⟨c, A, r⟩ := A; exact ⟨c, A.ext E, r⟩
theorem own_IX_ext (A : own_IX Z h t N) (E : Ext h h') : own_IX Z h' t N := by obtain ⟨c, A, r⟩ := A; exact ⟨c, A.ext E, r⟩
theorem own_IA_other (A : own_IA Z h t N f) (W : Wr h h' a sl v) (q : t ≠ a) : own_IA Z h' t N f := by obtain ⟨c, A, r⟩ := A; exact ⟨c, A.other W q, r⟩
theorem own_IX_wr (A : own_IX Z h t N) (W : Wr h h' a sl v) : own_IX Z h' t N := by
  obtain ⟨c, A, S⟩ := A
  obtain ⟨c', e1, e2, e3, e4, -⟩ := wr_at W A.1
  obtain ⟨⟨q1, k, q2, comp, q3⟩, q4⟩ := A.2
  exact ⟨c', ⟨e1, ⟨by rw [e3]; exact q1, k, by rw [e2]; exact q2, comp, q3⟩, by rw [e3]; exact q4⟩, e4.trans S⟩
theorem own_IA_lt (A : own_IA Z h t N f) : t < h.size := by obtain ⟨c, A, -⟩ := A; exact A.lt
theorem own_IA_ne {a0 : Array Value} {k : Nat} (A : own_IA Z h t N f) (E : Exa Z h a C) (wi : (Cond.instantiable C k).before a0 Z = true) : t ≠ a := by obtain ⟨c, A, -⟩ := A; exact Ne.symm (ne_arr E wi A)
theorem own_IX_ne {a0 : Array Value} {k : Nat} (A : own_IX Z h t N) (E : Exa Z h a C) (wi : (Cond.instantiable C k).before a0 Z = true) : t ≠ a := by obtain ⟨c, A, -⟩ := A; exact Ne.symm (ne_arr E wi A)
theorem own_IA_new {k : ClassId} {n : Int32} (A : Arr Z h t (newA k .int n) .int) : own_IA Z h t n.toNatClampNeg (fun _ => 0) := ⟨_, A, sz_new _ _ _, fun j hj => by
  have e : (newA k .int n).slots = Array.replicate n.toNatClampNeg (.int 0) := rfl
  rw [e]; simp [hj]⟩
theorem own_IA_upd {c : Cell} {i : Nat} {y : Int32} (A : Arr Z h t c .int) (S : c.slots.size = N) (H : ∀ j, j < N → c.slots[j]? = some (.int (f j))) (W : Wr h h' t i (.int y)) : own_IA Z h' t N (own_upd f i y) := by
  refine ⟨_, A.same W, by rw [sz_set]; exact S, fun j hj => ?_⟩
  by_cases q : j = i
  · subst q; rw [own_upd_same]; simp [Cell.setSlot, S, hj]
  · rw [own_upd_ne f y q]
    show (c.slots.setIfInBounds i _)[j]? = _
    rw [Array.getElem?_setIfInBounds_ne (Ne.symm q)]; exact H j hj
theorem own_in {c : Cell} {i : Int32} (hi : 0 ≤ i.toInt ∧ i.toInt < N) (S : c.slots.size = N) : ¬ (i < 0 ∨ c.slots.size ≤ i.toNatClampNeg) := by
  rw [S]; simp only [Int32.lt_iff_toInt_lt, Int32.toNatClampNeg, Int32.reduceToInt]; omega
end OwnFacts
def own_PD (Z : State) (h : Heap) (n0 : Nat) (a : Addr) (N : Nat) (f : Nat → Int32) (st : Int64) (cn fl : Int32) : Prop :=
  Exa Z h a "com/example/vilkarsbok/vilkarsbok/PeriodDays" ∧ Fld Z h a "com/example/vilkarsbok/vilkarsbok/PeriodDays" "start" "J" (.long st) ∧ Fld Z h a "com/example/vilkarsbok/vilkarsbok/PeriodDays" "count" "I" (.int cn) ∧ Fld Z h a "com/example/vilkarsbok/vilkarsbok/PeriodDays" "floats" "Z" (.int fl) ∧ ∃ t1 t2 t3 t4 : Addr, (Fld Z h a "com/example/vilkarsbok/vilkarsbok/PeriodDays" "ends" "[I" (.ref t1) ∧ Fld Z h a "com/example/vilkarsbok/vilkarsbok/PeriodDays" "payments" "[I" (.ref t2) ∧ Fld Z h a "com/example/vilkarsbok/vilkarsbok/PeriodDays" "fixings" "[I" (.ref t3) ∧ Fld Z h a "com/example/vilkarsbok/vilkarsbok/PeriodDays" "days" "[I" (.ref t4)) ∧ (n0 ≤ t1 ∧ n0 ≤ t2 ∧ n0 ≤ t3 ∧ n0 ≤ t4) ∧ (t1 ≠ t2 ∧ t1 ≠ t3 ∧ t1 ≠ t4) ∧ own_IA Z h t1 N f ∧ own_IX Z h t2 N ∧ own_IX Z h t3 N ∧ own_IX Z h t4 N
/-! the plain law -/
theorem own_cnt (x : Int32) : 3 ≤ ((3 : Int32) + (x &&& (127 : Int32))).toInt ∧ ((3 : Int32) + (x &&& (127 : Int32))).toInt ≤ 130 := by
  have a := c_and x 127 (by decide)
  have b := c_iadd 3 (x &&& (127 : Int32))
  have b1 := Int32.toInt_lt ((3 : Int32) + (x &&& (127 : Int32))); have b2 := Int32.le_toInt ((3 : Int32) + (x &&& (127 : Int32)))
  simp only [Int32.reduceToInt] at *
  omega
theorem own_max {n r : Int32} (hn : 3 ≤ n.toInt ∧ n.toInt ≤ 130) (h : (r = ((2 : Int32) * (64 : Int32)) ∧ n < ((2 : Int32) * (64 : Int32))) ∨ (r = n ∧ ¬ n < ((2 : Int32) * (64 : Int32)))) : ¬ r < 0 ∧ r.toNatClampNeg ≤ 130 ∧ n.toInt ≤ (r.toNatClampNeg : Int) := by
  have e : ((2 : Int32) * (64 : Int32)) = 128 := by decide
  rw [e] at h
  simp only [Int32.lt_iff_toInt_lt, Int32.toNatClampNeg, Int32.reduceToInt] at *
  rcases h with ⟨rfl, h⟩ | ⟨rfl, h⟩ <;> (try simp only [Int32.reduceToInt]) <;> omega
theorem own_nogrow {n : Int32} (hc : ¬ (64 : Int32) < n) : n.toInt ≤ ((64 : Nat) : Int) := by
  simp only [Int32.lt_iff_toInt_lt, Int32.reduceToInt] at hc; omega
theorem own_j {n j : Int32} (hn : 3 ≤ n.toInt ∧ n.toInt ≤ 130) (hj : j = n - (2 : Int32)) : j.toInt = n.toInt - 2 ∧ (j.toNatClampNeg : Int) = n.toInt - 2 ∧ ((n - (1 : Int32)) - (1 : Int32)).toNatClampNeg = j.toNatClampNeg ∧ (n - (1 : Int32)).toInt = n.toInt - 1 := by
  have a := c_isub n 2; have b := c_isub n 1; have d := c_isub (n - 1) 1
  rw [← hj] at a
  have b1 := Int32.toInt_lt j; have b2 := Int32.le_toInt j
  have b3 := Int32.toInt_lt (n - 1); have b4 := Int32.le_toInt (n - 1)
  have b5 := Int32.toInt_lt (n - 1 - 1); have b6 := Int32.le_toInt (n - 1 - 1)
  simp only [Int32.toNatClampNeg, Int32.reduceToInt] at *
  omega
theorem own_f0 (f : Nat → Int32) (ea eb ec : Int32) {jn : Nat} (hj : 1 ≤ jn) : own_upd (own_upd (own_upd f 0 ea) 1 eb) jn ec 0 = ea := by
  rw [own_upd_ne _ _ (by omega), own_upd_ne _ _ (by omega), own_upd_same]
theorem own_f1 (f : Nat → Int32) (ea eb ec : Int32) {n : Int32} {jn : Nat} {x : Int64} (hj : (jn : Int) = n.toInt - 2) (hx : (x = ec.toInt64 ∧ n = (3 : Int32)) ∨ (x = eb.toInt64 ∧ ¬ n = (3 : Int32))) : (own_upd (own_upd (own_upd f 0 ea) 1 eb) jn ec 1).toInt64 = x := by
  rcases hx with ⟨rfl, rfl⟩ | ⟨rfl, hn⟩
  · have : jn = 1 := by simp only [Int32.reduceToInt] at hj; omega
    subst this; rw [own_upd_same]
  · have : 1 ≠ jn := fun q => hn (Int32.toInt_inj.mp (by simp only [Int32.reduceToInt]; omega))
    rw [own_upd_ne _ _ this, own_upd_same]
def Qx (Z : State) (p1 p2 : Int32) (h0 : Heap) (n0 : Nat) (v : Option Value) (h : Heap) (L : List Loc) : Prop := (∃ r : Int32, v = some (.int r) ∧ ((r = p2 ∧ p1 < p2) ∨ (r = p1 ∧ ¬ p1 < p2))) ∧ Fr n0 L ∧ h = h0
theorem d6_0 : decode jdk_29_method_65_code 0 = .ok (.iload_n 0, 1) := by decide +kernel
theorem d6_1 : decode jdk_29_method_65_code 1 = .ok (.iload_n 1, 1) := by decide +kernel
theorem d6_2 : decode jdk_29_method_65_code 2 = .ok (.if_icmp .lt 7, 3) := by decide +kernel
theorem d6_9 : decode jdk_29_method_65_code 9 = .ok (.iload_n 1, 1) := by decide +kernel
theorem d6_10 : decode jdk_29_method_65_code 10 = .ok (.ireturn, 1) := by decide +kernel
theorem d6_5 : decode jdk_29_method_65_code 5 = .ok (.iload_n 0, 1) := by decide +kernel
theorem d6_6 : decode jdk_29_method_65_code 6 = .ok (.goto 4, 3) := by decide +kernel
theorem ef_6 (m : MethodId) (p1 : Int32) (p2 : Int32) : entryFrame m #[(.int p1), (.int p2)] 2 = mkF m 0 #[.val (.int p1), .val (.int p2)] [] := by first | (simp [entryFrame, mkF, argsToLocals, Value.category]; done) | rfl
set_option maxRecDepth 65536 in
set_option maxHeartbeats 40000000 in
theorem rmX (l : Launch) (Z : State) (a0 : Array Value) (hw : ∀ d ∈ tables_1, d.before a0 Z = true) (ws : List Jvm.Cond) (p1 : Int32) (p2 : Int32)  (h0 : Heap) (n0 : Nat) (Z0 : n0 ≤ h0.size)  :
    MetFree l (⟨"java/lang/Math", "max", "(II)I"⟩ : MethodName) (head1 (Jvm.Cond.code (⟨"java/lang/Math", "max", "(II)I"⟩ : MethodName) jdk_29_method_65_code 2 (some .int) :: ws) ({ frames := 0, cells := 0, slots := 0, locals := 0 } : Room)) (fun a U => a = #[(.int p1), (.int p2)] ∧ Z.Warmed39 U.vm ∧ U.heap = h0) (fun _ _ _ _ _ => True) (fun _ U o U' => ∃ v L, o = .returned v ∧ Qx Z p1 p2 h0 n0 v U'.heap L ∧ FrameEnd U o U' L ({ frames := 0, cells := 0, slots := 0, locals := 0 } : Room).cells ({ frames := 0, cells := 0, slots := 0, locals := 0 } : Room).slots) := by
  refine MetFree.of_bodySF (Jvm.Free.JP.mathPlain rfl (by decide +kernel)) hisR ?_
  intro p e s m args below meth c s₁ Bd hml0 hP hK
  obtain ⟨rfl, hZ, hh⟩ := hP
  have hx := Bd.exec
  have hby := Bd.bytes
  have hml : c.maxLocals = 2 := hml0
  have hown : s.vm.findClass "java/lang/Math" = some m.cls := findClass_of_methodNamed Bd.named
  have hnm := (name_of_methodNamed Bd.named Bd.method).1
  have X0 : Stand p l e ({ frames := 0, cells := 0, slots := 0, locals := 0 } : Room) s m #[(.int p1), (.int p2)] below meth c s₁ [] 0 0 := Stand.of_body Bd
  have e0 : s₁.heap = h0 := by rw [← hh, Bd.state]; rfl
  have N0 := Fr.nil n0
  have pre0 : ∀ t, Steps p.tables e below (s₁.setTop (mkF m 0 #[.val (.int p1), .val (.int p2)] [])) t → Steps p.tables e below (s₁.setTop (entryFrame m #[(.int p1), (.int p2)] 2)) t := fun t k => castTop (ef_6 m p1 p2) k
  have pre1 : ∀ t, Steps p.tables e below (s₁.setTop (mkF m 2 #[.val (.int p1), .val (.int p2)] [(.int p2), (.int p1)])) t → Steps p.tables e below (s₁.setTop (entryFrame m #[(.int p1), (.int p2)] 2)) t := by
    intro t k
    refine pre0 t ?_
    show Steps p.tables e below (s₁.setTop (mkF m 0 #[.val (.int p1), .val (.int p2)] [])) _
    refine XS.iloadN X0.here hx rfl (hb hby d6_0) rfl ?_
    show Steps p.tables e below (s₁.setTop (mkF m 1 #[.val (.int p1), .val (.int p2)] [(.int p1)])) _
    refine XS.iloadN X0.here hx rfl (hb hby d6_1) rfl ?_
    exact k
  by_cases c2 : p1 < p2
  · obtain ⟨fs, hr, hrun, hended, hW, hsame⟩ := X0.leave (v := some (.int p2)) (fun h => by rw [Bd.returns] at h; cases h) (hlocks := BodyLoose.notSynchronized Bd)
    refine ⟨_, _, pre1 _ ?_, hrun, hended, _, _, rfl, ?_, ⟨_, rfl⟩, hW, hsame.mono (by decide) (by decide)⟩
    · show Steps p.tables e below (s₁.setTop (mkF m 2 #[.val (.int p1), .val (.int p2)] [(.int p2), (.int p1)])) _
      refine XS.icmpYes X0.here hx rfl (pc0 := 2) (pc' := 9) rfl (hb hby d6_2) rfl (tlt c2).1 (by decide) (by decide) ?_
      show Steps p.tables e below (s₁.setTop (mkF m 9 #[.val (.int p1), .val (.int p2)] [])) _
      refine XS.iloadN X0.here hx rfl (hb hby d6_9) rfl ?_
      show Steps p.tables e below (s₁.setTop (mkF m 10 #[.val (.int p1), .val (.int p2)] [(.int p2)])) _
      exact retI X0 hx Bd.returns (hb hby d6_10) hr
    · show Qx Z p1 p2 h0 n0 _ s₁.heap _
      rw [e0]
      exact ⟨⟨_, rfl, Or.inl ⟨rfl, c2⟩⟩, N0, rfl⟩
  · obtain ⟨fs, hr, hrun, hended, hW, hsame⟩ := X0.leave (v := some (.int p1)) (fun h => by rw [Bd.returns] at h; cases h) (hlocks := BodyLoose.notSynchronized Bd)
    refine ⟨_, _, pre1 _ ?_, hrun, hended, _, _, rfl, ?_, ⟨_, rfl⟩, hW, hsame.mono (by decide) (by decide)⟩
    · show Steps p.tables e below (s₁.setTop (mkF m 2 #[.val (.int p1), .val (.int p2)] [(.int p2), (.int p1)])) _
      refine XS.icmpNo X0.here hx rfl (hb hby d6_2) rfl (flt c2).1 ?_
      show Steps p.tables e below (s₁.setTop (mkF m 5 #[.val (.int p1), .val (.int p2)] [])) _
      refine XS.iloadN X0.here hx rfl (hb hby d6_5) rfl ?_
      show Steps p.tables e below (s₁.setTop (mkF m 6 #[.val (.int p1), .val (.int p2)] [(.int p1)])) _
      refine XS.goto X0.here hx rfl (pc0 := 6) (pc' := 10) rfl (hb hby d6_6) (by decide) (by decide) ?_
      show Steps p.tables e below (s₁.setTop (mkF m 10 #[.val (.int p1), .val (.int p2)] [(.int p1)])) _
      exact retI X0 hx Bd.returns (hb hby d6_10) hr
    · show Qx Z p1 p2 h0 n0 _ s₁.heap _
      rw [e0]
      exact ⟨⟨_, rfl, Or.inr ⟨rfl, c2⟩⟩, N0, rfl⟩
def Qi (Z : State) (a1 : Addr) (h0 : Heap) (n0 : Nat) (v : Option Value) (h : Heap) (L : List Loc) : Prop := v = none ∧ Fr n0 L ∧ n0 ≤ h.size ∧ own_PD Z h n0 a1 64 (fun _ => 0) 0 0 0
theorem d1_0 : decode prog_36_method_1_code 0 = .ok (.aload_n 0, 1) := by decide +kernel
theorem d1_1 : decode prog_36_method_1_code 1 = .ok (.invokespecial 1, 3) := by decide +kernel
theorem d1_4 : decode prog_36_method_1_code 4 = .ok (.aload_n 0, 1) := by decide +kernel
theorem d1_5 : decode prog_36_method_1_code 5 = .ok (.bipush 64, 2) := by decide +kernel
theorem d1_7 : decode prog_36_method_1_code 7 = .ok (.newarray .int, 2) := by decide +kernel
theorem d1_9 : decode prog_36_method_1_code 9 = .ok (.putfield 9, 3) := by decide +kernel
theorem d1_12 : decode prog_36_method_1_code 12 = .ok (.aload_n 0, 1) := by decide +kernel
theorem d1_13 : decode prog_36_method_1_code 13 = .ok (.bipush 64, 2) := by decide +kernel
theorem d1_15 : decode prog_36_method_1_code 15 = .ok (.newarray .int, 2) := by decide +kernel
theorem d1_17 : decode prog_36_method_1_code 17 = .ok (.putfield 13, 3) := by decide +kernel
theorem d1_20 : decode prog_36_method_1_code 20 = .ok (.aload_n 0, 1) := by decide +kernel
theorem d1_21 : decode prog_36_method_1_code 21 = .ok (.bipush 64, 2) := by decide +kernel
theorem d1_23 : decode prog_36_method_1_code 23 = .ok (.newarray .int, 2) := by decide +kernel
theorem d1_25 : decode prog_36_method_1_code 25 = .ok (.putfield 16, 3) := by decide +kernel
theorem d1_28 : decode prog_36_method_1_code 28 = .ok (.aload_n 0, 1) := by decide +kernel
theorem d1_29 : decode prog_36_method_1_code 29 = .ok (.bipush 64, 2) := by decide +kernel
theorem d1_31 : decode prog_36_method_1_code 31 = .ok (.newarray .int, 2) := by decide +kernel
theorem d1_33 : decode prog_36_method_1_code 33 = .ok (.putfield 19, 3) := by decide +kernel
theorem d1_36 : decode prog_36_method_1_code 36 = .ok (.return_, 1) := by decide +kernel
theorem ef_1 (m : MethodId) (a1 : Addr) : entryFrame m #[(.ref a1)] 1 = mkF m 0 #[.val (.ref a1)] [] := by first | (simp [entryFrame, mkF, argsToLocals, Value.category]; done) | rfl
theorem pn_0 : plainName "com/example/vilkarsbok/vilkarsbok/PeriodDays" = true := by first | (simp [plainName, overriddenIn]; done) | decide +kernel
set_option maxRecDepth 65536 in
set_option maxHeartbeats 40000000 in
theorem rmI (l : Launch) (Z : State) (a0 : Array Value) (hw : ∀ d ∈ tables_1, d.before a0 Z = true) (ws : List Jvm.Cond) (a1 : Addr)  (h0 : Heap) (n0 : Nat) (Z0 : n0 ≤ h0.size) (E : Exa Z h0 a1 "com/example/vilkarsbok/vilkarsbok/PeriodDays") (F_ends : Fld Z h0 a1 "com/example/vilkarsbok/vilkarsbok/PeriodDays" "ends" "[I" .null) (F_payments : Fld Z h0 a1 "com/example/vilkarsbok/vilkarsbok/PeriodDays" "payments" "[I" .null) (F_fixings : Fld Z h0 a1 "com/example/vilkarsbok/vilkarsbok/PeriodDays" "fixings" "[I" .null) (F_days : Fld Z h0 a1 "com/example/vilkarsbok/vilkarsbok/PeriodDays" "days" "[I" .null) (F_start : Fld Z h0 a1 "com/example/vilkarsbok/vilkarsbok/PeriodDays" "start" "J" (.long (0 : Int64))) (F_count : Fld Z h0 a1 "com/example/vilkarsbok/vilkarsbok/PeriodDays" "count" "I" (.int (0 : Int32))) (F_floats : Fld Z h0 a1 "com/example/vilkarsbok/vilkarsbok/PeriodDays" "floats" "Z" (.int (0 : Int32))) (ga : n0 ≤ a1) :
    MetFree l (⟨"com/example/vilkarsbok/vilkarsbok/PeriodDays", "<init>", "()V"⟩ : MethodName) (head1 (Jvm.Cond.code (⟨"com/example/vilkarsbok/vilkarsbok/PeriodDays", "<init>", "()V"⟩ : MethodName) prog_36_method_1_code 1 none :: ws) ({ frames := 1, cells := 4, slots := 256, locals := 12 } : Room)) (fun a U => a = #[(.ref a1)] ∧ Z.Warmed39 U.vm ∧ U.heap = h0) (fun _ _ _ _ _ => True) (fun _ U o U' => ∃ v L, o = .returned v ∧ Qi Z a1 h0 n0 v U'.heap L ∧ FrameEnd U o U' L ({ frames := 1, cells := 4, slots := 256, locals := 12 } : Room).cells ({ frames := 1, cells := 4, slots := 256, locals := 12 } : Room).slots) := by
  refine MetFree.of_bodySF (plainFor_of_name pn_0) hisR ?_
  intro p e s m args below meth c s₁ Bd hml0 hP hK
  obtain ⟨rfl, hZ, hh⟩ := hP
  have hx := Bd.exec
  have hby := Bd.bytes
  have hml : c.maxLocals = 1 := hml0
  have hown : s.vm.findClass "com/example/vilkarsbok/vilkarsbok/PeriodDays" = some m.cls := findClass_of_methodNamed Bd.named
  have hnm := (name_of_methodNamed Bd.named Bd.method).1
  have X0 : Stand p l e ({ frames := 1, cells := 4, slots := 256, locals := 12 } : Room) s m #[(.ref a1)] below meth c s₁ [] 0 0 := Stand.of_body Bd
  have e0 : s₁.heap = h0 := by rw [← hh, Bd.state]; rfl
  have N0 := Fr.nil n0
  have pre0 : ∀ t, Steps p.tables e below (s₁.setTop (mkF m 0 #[.val (.ref a1)] [])) t → Steps p.tables e below (s₁.setTop (entryFrame m #[(.ref a1)] 1)) t := fun t k => castTop (ef_1 m a1) k
  obtain ⟨T1, X1, e1, st1⟩ := initO X0 hx hZ hown (hw _ (List.mem_of_getElem? (i := 6) rfl)) (hw _ (List.mem_of_getElem? (i := 7) rfl)) (hw _ (List.mem_of_getElem? (i := 8) rfl)) e0 (g := (mkF m 1 #[.val (.ref a1)] [(.ref a1)])) rfl (by rw [hml]; rfl) rfl (hb hby d1_1) (by decide) (W := 0) (by show 2 * 0 + _ ≤ _; exact Nat.le_of_eq rfl) (by decide)
  obtain ⟨T2, h2, k2, X2, e2, E2, A2, st2⟩ := newP X1 hx hZ (hw _ (List.mem_of_getElem? (i := 9) rfl)) e1 (g := (mkF m 7 #[.val (.ref a1)] [(.int (64 : Int32)), (.ref a1)])) rfl (hb hby d1_7) rfl (by decide) (cap := 64) (by decide) (by decide) (by decide) (by decide)
  obtain ⟨b2, g2⟩ : ∃ z, z = h0.size := ⟨_, rfl⟩
  rw [← g2] at A2 st2
  have V_b2 := Arv.new A2 (by decide)
  have ge_b2 : n0 ≤ b2 := Nat.le_trans Z0 (Nat.le_of_eq g2.symm)
  have fends_2 := F_ends.ext E2
  have fpayments_2 := F_payments.ext E2
  have ffixings_2 := F_fixings.ext E2
  have fdays_2 := F_days.ext E2
  have fstart_2 := F_start.ext E2
  have fcount_2 := F_count.ext E2
  have ffloats_2 := F_floats.ext E2
  have fE_2 := E.ext E2
  have fZ_2 := Nat.le_trans Z0 E2.1
  have fAends_2 := own_IA_new A2
  obtain ⟨T3, h3, X3, e3, W3, st3⟩ := putF X2 hx hZ hown (host := "") (Or.inl (hw _ (List.mem_of_getElem? (i := 10) rfl))) Via.refl e2 fends_2 fE_2 (Or.inl (hw _ (List.mem_of_getElem? (i := 11) rfl))) (hw _ (List.mem_of_getElem? (i := 1) rfl)) (ty := (.array .int)) (by decide) rfl rfl (g := (mkF m 9 #[.val (.ref a1)] [(.ref b2), (.ref a1)])) rfl rfl (hb hby d1_9)
  have N3 := Fr.snoc X3 N0 ga
  have fAends_3 := own_IA_other fAends_2 W3 (own_IA_ne fAends_2 fE_2 (hw _ (List.mem_of_getElem? (i := 1) rfl)))
  have fends_3 := fends_2.same W3
  have fpayments_3 := fpayments_2.other W3 (Or.inr (slot_ne (Or.inl (hw _ (List.mem_of_getElem? (i := 13) rfl))) (Or.inl (hw _ (List.mem_of_getElem? (i := 11) rfl))) (by decide) (t := (.array .int)) (t' := (.array .int)) (by decide) (by decide)))
  have ffixings_3 := ffixings_2.other W3 (Or.inr (slot_ne (Or.inl (hw _ (List.mem_of_getElem? (i := 15) rfl))) (Or.inl (hw _ (List.mem_of_getElem? (i := 11) rfl))) (by decide) (t := (.array .int)) (t' := (.array .int)) (by decide) (by decide)))
  have fdays_3 := fdays_2.other W3 (Or.inr (slot_ne (Or.inl (hw _ (List.mem_of_getElem? (i := 17) rfl))) (Or.inl (hw _ (List.mem_of_getElem? (i := 11) rfl))) (by decide) (t := (.array .int)) (t' := (.array .int)) (by decide) (by decide)))
  have fstart_3 := fstart_2.other W3 (Or.inr (slot_ne (Or.inl (hw _ (List.mem_of_getElem? (i := 24) rfl))) (Or.inl (hw _ (List.mem_of_getElem? (i := 11) rfl))) (by decide) (t := .long) (t' := (.array .int)) (by decide) (by decide)))
  have fcount_3 := fcount_2.other W3 (Or.inr (slot_ne (Or.inl (hw _ (List.mem_of_getElem? (i := 26) rfl))) (Or.inl (hw _ (List.mem_of_getElem? (i := 11) rfl))) (by decide) (t := .int) (t' := (.array .int)) (by decide) (by decide)))
  have ffloats_3 := ffloats_2.other W3 (Or.inr (slot_ne (Or.inl (hw _ (List.mem_of_getElem? (i := 28) rfl))) (Or.inl (hw _ (List.mem_of_getElem? (i := 11) rfl))) (by decide) (t := .boolean) (t' := (.array .int)) (by decide) (by decide)))
  have fE_3 := fE_2.wr W3
  have fZ_3 := Nat.le_trans fZ_2 (Keep.of_wr W3).1
  have pre4 : ∀ t, Steps p.tables e below (T3.setTop (mkF m 12 #[.val (.ref a1)] [])) t → Steps p.tables e below (s₁.setTop (entryFrame m #[(.ref a1)] 1)) t := by
    intro t k
    refine pre0 t ?_
    show Steps p.tables e below (s₁.setTop (mkF m 0 #[.val (.ref a1)] [])) _
    refine XS.aloadN X0.here hx rfl (hb hby d1_0) rfl rfl ?_
    show Steps p.tables e below (s₁.setTop (mkF m 1 #[.val (.ref a1)] [(.ref a1)])) _
    refine st1 _ ?_
    show Steps p.tables e below (T1.setTop (mkF m 4 #[.val (.ref a1)] [])) _
    refine XS.aloadN X1.here hx rfl (hb hby d1_4) rfl rfl ?_
    show Steps p.tables e below (T1.setTop (mkF m 5 #[.val (.ref a1)] [(.ref a1)])) _
    refine XS.bipush X1.here hx rfl (hb hby d1_5) ?_
    show Steps p.tables e below (T1.setTop (mkF m 7 #[.val (.ref a1)] [(.int (64 : Int32)), (.ref a1)])) _
    refine st2 _ ?_
    show Steps p.tables e below (T2.setTop (mkF m 9 #[.val (.ref a1)] [(.ref b2), (.ref a1)])) _
    refine st3 _ ?_
    exact k
  obtain ⟨T5, h5, k5, X5, e5, E5, A5, st5⟩ := newP X3 hx hZ (hw _ (List.mem_of_getElem? (i := 9) rfl)) e3 (g := (mkF m 15 #[.val (.ref a1)] [(.int (64 : Int32)), (.ref a1)])) rfl (hb hby d1_15) rfl (by decide) (cap := 64) (by decide) (by decide) (by decide) (by decide)
  obtain ⟨b5, g5⟩ : ∃ z, z = h3.size := ⟨_, rfl⟩
  rw [← g5] at A5 st5
  have V_b5 := Arv.new A5 (by decide)
  have ge_b5 : n0 ≤ b5 := Nat.le_trans fZ_3 (Nat.le_of_eq g5.symm)
  have ne_b5 : b2 ≠ b5 := Nat.ne_of_lt (Nat.lt_of_lt_of_le (own_IA_lt fAends_3) (Nat.le_of_eq g5.symm))
  have fends_5 := fends_3.ext E5
  have fpayments_5 := fpayments_3.ext E5
  have ffixings_5 := ffixings_3.ext E5
  have fdays_5 := fdays_3.ext E5
  have fstart_5 := fstart_3.ext E5
  have fcount_5 := fcount_3.ext E5
  have ffloats_5 := ffloats_3.ext E5
  have fE_5 := fE_3.ext E5
  have fZ_5 := Nat.le_trans fZ_3 E5.1
  have fAends_5 := own_IA_ext fAends_3 E5
  have fApayments_5 := own_IA_new A5
  obtain ⟨T6, h6, X6, e6, W6, st6⟩ := putF X5 hx hZ hown (host := "") (Or.inl (hw _ (List.mem_of_getElem? (i := 12) rfl))) Via.refl e5 fpayments_5 fE_5 (Or.inl (hw _ (List.mem_of_getElem? (i := 13) rfl))) (hw _ (List.mem_of_getElem? (i := 1) rfl)) (ty := (.array .int)) (by decide) rfl rfl (g := (mkF m 17 #[.val (.ref a1)] [(.ref b5), (.ref a1)])) rfl rfl (hb hby d1_17)
  have N6 := Fr.snoc X6 N3 ga
  have fAends_6 := own_IA_other fAends_5 W6 (own_IA_ne fAends_5 fE_5 (hw _ (List.mem_of_getElem? (i := 1) rfl)))
  have fApayments_6 := own_IA_other fApayments_5 W6 (own_IA_ne fApayments_5 fE_5 (hw _ (List.mem_of_getElem? (i := 1) rfl)))
  have fends_6 := fends_5.other W6 (Or.inr (slot_ne (Or.inl (hw _ (List.mem_of_getElem? (i := 11) rfl))) (Or.inl (hw _ (List.mem_of_getElem? (i := 13) rfl))) (by decide) (t := (.array .int)) (t' := (.array .int)) (by decide) (by decide)))
  have fpayments_6 := fpayments_5.same W6
  have ffixings_6 := ffixings_5.other W6 (Or.inr (slot_ne (Or.inl (hw _ (List.mem_of_getElem? (i := 15) rfl))) (Or.inl (hw _ (List.mem_of_getElem? (i := 13) rfl))) (by decide) (t := (.array .int)) (t' := (.array .int)) (by decide) (by decide)))
  have fdays_6 := fdays_5.other W6 (Or.inr (slot_ne (Or.inl (hw _ (List.mem_of_getElem? (i := 17) rfl))) (Or.inl (hw _ (List.mem_of_getElem? (i := 13) rfl))) (by decide) (t := (.array .int)) (t' := (.array .int)) (by decide) (by decide)))
  have fstart_6 := fstart_5.other W6 (Or.inr (slot_ne (Or.inl (hw _ (List.mem_of_getElem? (i := 24) rfl))) (Or.inl (hw _ (List.mem_of_getElem? (i := 13) rfl))) (by decide) (t := .long) (t' := (.array .int)) (by decide) (by decide)))
  have fcount_6 := fcount_5.other W6 (Or.inr (slot_ne (Or.inl (hw _ (List.mem_of_getElem? (i := 26) rfl))) (Or.inl (hw _ (List.mem_of_getElem? (i := 13) rfl))) (by decide) (t := .int) (t' := (.array .int)) (by decide) (by decide)))
  have ffloats_6 := ffloats_5.other W6 (Or.inr (slot_ne (Or.inl (hw _ (List.mem_of_getElem? (i := 28) rfl))) (Or.inl (hw _ (List.mem_of_getElem? (i := 13) rfl))) (by decide) (t := .boolean) (t' := (.array .int)) (by decide) (by decide)))
  have fE_6 := fE_5.wr W6
  have fZ_6 := Nat.le_trans fZ_5 (Keep.of_wr W6).1
  have pre7 : ∀ t, Steps p.tables e below (T6.setTop (mkF m 20 #[.val (.ref a1)] [])) t → Steps p.tables e below (s₁.setTop (entryFrame m #[(.ref a1)] 1)) t := by
    intro t k
    refine pre4 t ?_
    show Steps p.tables e below (T3.setTop (mkF m 12 #[.val (.ref a1)] [])) _
    refine XS.aloadN X3.here hx rfl (hb hby d1_12) rfl rfl ?_
    show Steps p.tables e below (T3.setTop (mkF m 13 #[.val (.ref a1)] [(.ref a1)])) _
    refine XS.bipush X3.here hx rfl (hb hby d1_13) ?_
    show Steps p.tables e below (T3.setTop (mkF m 15 #[.val (.ref a1)] [(.int (64 : Int32)), (.ref a1)])) _
    refine st5 _ ?_
    show Steps p.tables e below (T5.setTop (mkF m 17 #[.val (.ref a1)] [(.ref b5), (.ref a1)])) _
    refine st6 _ ?_
    exact k
  obtain ⟨T8, h8, k8, X8, e8, E8, A8, st8⟩ := newP X6 hx hZ (hw _ (List.mem_of_getElem? (i := 9) rfl)) e6 (g := (mkF m 23 #[.val (.ref a1)] [(.int (64 : Int32)), (.ref a1)])) rfl (hb hby d1_23) rfl (by decide) (cap := 64) (by decide) (by decide) (by decide) (by decide)
  obtain ⟨b8, g8⟩ : ∃ z, z = h6.size := ⟨_, rfl⟩
  rw [← g8] at A8 st8
  have V_b8 := Arv.new A8 (by decide)
  have ge_b8 : n0 ≤ b8 := Nat.le_trans fZ_6 (Nat.le_of_eq g8.symm)
  have ne_b8 : b2 ≠ b8 := Nat.ne_of_lt (Nat.lt_of_lt_of_le (own_IA_lt fAends_6) (Nat.le_of_eq g8.symm))
  have fends_8 := fends_6.ext E8
  have fpayments_8 := fpayments_6.ext E8
  have ffixings_8 := ffixings_6.ext E8
  have fdays_8 := fdays_6.ext E8
  have fstart_8 := fstart_6.ext E8
  have fcount_8 := fcount_6.ext E8
  have ffloats_8 := ffloats_6.ext E8
  have fE_8 := fE_6.ext E8
  have fZ_8 := Nat.le_trans fZ_6 E8.1
  have fAends_8 := own_IA_ext fAends_6 E8
  have fApayments_8 := own_IA_ext fApayments_6 E8
  have fAfixings_8 := own_IA_new A8
  obtain ⟨T9, h9, X9, e9, W9, st9⟩ := putF X8 hx hZ hown (host := "") (Or.inl (hw _ (List.mem_of_getElem? (i := 14) rfl))) Via.refl e8 ffixings_8 fE_8 (Or.inl (hw _ (List.mem_of_getElem? (i := 15) rfl))) (hw _ (List.mem_of_getElem? (i := 1) rfl)) (ty := (.array .int)) (by decide) rfl rfl (g := (mkF m 25 #[.val (.ref a1)] [(.ref b8), (.ref a1)])) rfl rfl (hb hby d1_25)
  have N9 := Fr.snoc X9 N6 ga
  have fAends_9 := own_IA_other fAends_8 W9 (own_IA_ne fAends_8 fE_8 (hw _ (List.mem_of_getElem? (i := 1) rfl)))
  have fApayments_9 := own_IA_other fApayments_8 W9 (own_IA_ne fApayments_8 fE_8 (hw _ (List.mem_of_getElem? (i := 1) rfl)))
  have fAfixings_9 := own_IA_other fAfixings_8 W9 (own_IA_ne fAfixings_8 fE_8 (hw _ (List.mem_of_getElem? (i := 1) rfl)))
  have fends_9 := fends_8.other W9 (Or.inr (slot_ne (Or.inl (hw _ (List.mem_of_getElem? (i := 11) rfl))) (Or.inl (hw _ (List.mem_of_getElem? (i := 15) rfl))) (by decide) (t := (.array .int)) (t' := (.array .int)) (by decide) (by decide)))
  have fpayments_9 := fpayments_8.other W9 (Or.inr (slot_ne (Or.inl (hw _ (List.mem_of_getElem? (i := 13) rfl))) (Or.inl (hw _ (List.mem_of_getElem? (i := 15) rfl))) (by decide) (t := (.array .int)) (t' := (.array .int)) (by decide) (by decide)))
  have ffixings_9 := ffixings_8.same W9
  have fdays_9 := fdays_8.other W9 (Or.inr (slot_ne (Or.inl (hw _ (List.mem_of_getElem? (i := 17) rfl))) (Or.inl (hw _ (List.mem_of_getElem? (i := 15) rfl))) (by decide) (t := (.array .int)) (t' := (.array .int)) (by decide) (by decide)))
  have fstart_9 := fstart_8.other W9 (Or.inr (slot_ne (Or.inl (hw _ (List.mem_of_getElem? (i := 24) rfl))) (Or.inl (hw _ (List.mem_of_getElem? (i := 15) rfl))) (by decide) (t := .long) (t' := (.array .int)) (by decide) (by decide)))
  have fcount_9 := fcount_8.other W9 (Or.inr (slot_ne (Or.inl (hw _ (List.mem_of_getElem? (i := 26) rfl))) (Or.inl (hw _ (List.mem_of_getElem? (i := 15) rfl))) (by decide) (t := .int) (t' := (.array .int)) (by decide) (by decide)))
  have ffloats_9 := ffloats_8.other W9 (Or.inr (slot_ne (Or.inl (hw _ (List.mem_of_getElem? (i := 28) rfl))) (Or.inl (hw _ (List.mem_of_getElem? (i := 15) rfl))) (by decide) (t := .boolean) (t' := (.array .int)) (by decide) (by decide)))
  have fE_9 := fE_8.wr W9
  have fZ_9 := Nat.le_trans fZ_8 (Keep.of_wr W9).1
  have pre10 : ∀ t, Steps p.tables e below (T9.setTop (mkF m 28 #[.val (.ref a1)] [])) t → Steps p.tables e below (s₁.setTop (entryFrame m #[(.ref a1)] 1)) t := by
    intro t k
    refine pre7 t ?_
    show Steps p.tables e below (T6.setTop (mkF m 20 #[.val (.ref a1)] [])) _
    refine XS.aloadN X6.here hx rfl (hb hby d1_20) rfl rfl ?_
    show Steps p.tables e below (T6.setTop (mkF m 21 #[.val (.ref a1)] [(.ref a1)])) _
    refine XS.bipush X6.here hx rfl (hb hby d1_21) ?_
    show Steps p.tables e below (T6.setTop (mkF m 23 #[.val (.ref a1)] [(.int (64 : Int32)), (.ref a1)])) _
    refine st8 _ ?_
    show Steps p.tables e below (T8.setTop (mkF m 25 #[.val (.ref a1)] [(.ref b8), (.ref a1)])) _
    refine st9 _ ?_
    exact k
  obtain ⟨T11, h11, k11, X11, e11, E11, A11, st11⟩ := newP X9 hx hZ (hw _ (List.mem_of_getElem? (i := 9) rfl)) e9 (g := (mkF m 31 #[.val (.ref a1)] [(.int (64 : Int32)), (.ref a1)])) rfl (hb hby d1_31) rfl (by decide) (cap := 64) (by decide) (by decide) (by decide) (by decide)
  obtain ⟨b11, g11⟩ : ∃ z, z = h9.size := ⟨_, rfl⟩
  rw [← g11] at A11 st11
  have V_b11 := Arv.new A11 (by decide)
  have ge_b11 : n0 ≤ b11 := Nat.le_trans fZ_9 (Nat.le_of_eq g11.symm)
  have ne_b11 : b2 ≠ b11 := Nat.ne_of_lt (Nat.lt_of_lt_of_le (own_IA_lt fAends_9) (Nat.le_of_eq g11.symm))
  have fends_11 := fends_9.ext E11
  have fpayments_11 := fpayments_9.ext E11
  have ffixings_11 := ffixings_9.ext E11
  have fdays_11 := fdays_9.ext E11
  have fstart_11 := fstart_9.ext E11
  have fcount_11 := fcount_9.ext E11
  have ffloats_11 := ffloats_9.ext E11
  have fE_11 := fE_9.ext E11
  have fZ_11 := Nat.le_trans fZ_9 E11.1
  have fAends_11 := own_IA_ext fAends_9 E11
  have fApayments_11 := own_IA_ext fApayments_9 E11
  have fAfixings_11 := own_IA_ext fAfixings_9 E11
  have fAdays_11 := own_IA_new A11
  obtain ⟨T12, h12, X12, e12, W12, st12⟩ := putF X11 hx hZ hown (host := "") (Or.inl (hw _ (List.mem_of_getElem? (i := 16) rfl))) Via.refl e11 fdays_11 fE_11 (Or.inl (hw _ (List.mem_of_getElem? (i := 17) rfl))) (hw _ (List.mem_of_getElem? (i := 1) rfl)) (ty := (.array .int)) (by decide) rfl rfl (g := (mkF m 33 #[.val (.ref a1)] [(.ref b11), (.ref a1)])) rfl rfl (hb hby d1_33)
  have N12 := Fr.snoc X12 N9 ga
  have fAends_12 := own_IA_other fAends_11 W12 (own_IA_ne fAends_11 fE_11 (hw _ (List.mem_of_getElem? (i := 1) rfl)))
  have fApayments_12 := own_IA_other fApayments_11 W12 (own_IA_ne fApayments_11 fE_11 (hw _ (List.mem_of_getElem? (i := 1) rfl)))
  have fAfixings_12 := own_IA_other fAfixings_11 W12 (own_IA_ne fAfixings_11 fE_11 (hw _ (List.mem_of_getElem? (i := 1) rfl)))
  have fAdays_12 := own_IA_other fAdays_11 W12 (own_IA_ne fAdays_11 fE_11 (hw _ (List.mem_of_getElem? (i := 1) rfl)))
  have fends_12 := fends_11.other W12 (Or.inr (slot_ne (Or.inl (hw _ (List.mem_of_getElem? (i := 11) rfl))) (Or.inl (hw _ (List.mem_of_getElem? (i := 17) rfl))) (by decide) (t := (.array .int)) (t' := (.array .int)) (by decide) (by decide)))
  have fpayments_12 := fpayments_11.other W12 (Or.inr (slot_ne (Or.inl (hw _ (List.mem_of_getElem? (i := 13) rfl))) (Or.inl (hw _ (List.mem_of_getElem? (i := 17) rfl))) (by decide) (t := (.array .int)) (t' := (.array .int)) (by decide) (by decide)))
  have ffixings_12 := ffixings_11.other W12 (Or.inr (slot_ne (Or.inl (hw _ (List.mem_of_getElem? (i := 15) rfl))) (Or.inl (hw _ (List.mem_of_getElem? (i := 17) rfl))) (by decide) (t := (.array .int)) (t' := (.array .int)) (by decide) (by decide)))
  have fdays_12 := fdays_11.same W12
  have fstart_12 := fstart_11.other W12 (Or.inr (slot_ne (Or.inl (hw _ (List.mem_of_getElem? (i := 24) rfl))) (Or.inl (hw _ (List.mem_of_getElem? (i := 17) rfl))) (by decide) (t := .long) (t' := (.array .int)) (by decide) (by decide)))
  have fcount_12 := fcount_11.other W12 (Or.inr (slot_ne (Or.inl (hw _ (List.mem_of_getElem? (i := 26) rfl))) (Or.inl (hw _ (List.mem_of_getElem? (i := 17) rfl))) (by decide) (t := .int) (t' := (.array .int)) (by decide) (by decide)))
  have ffloats_12 := ffloats_11.other W12 (Or.inr (slot_ne (Or.inl (hw _ (List.mem_of_getElem? (i := 28) rfl))) (Or.inl (hw _ (List.mem_of_getElem? (i := 17) rfl))) (by decide) (t := .boolean) (t' := (.array .int)) (by decide) (by decide)))
  have fE_12 := fE_11.wr W12
  have fZ_12 := Nat.le_trans fZ_11 (Keep.of_wr W12).1
  have pre13 : ∀ t, Steps p.tables e below (T12.setTop (mkF m 36 #[.val (.ref a1)] [])) t → Steps p.tables e below (s₁.setTop (entryFrame m #[(.ref a1)] 1)) t := by
    intro t k
    refine pre10 t ?_
    show Steps p.tables e below (T9.setTop (mkF m 28 #[.val (.ref a1)] [])) _
    refine XS.aloadN X9.here hx rfl (hb hby d1_28) rfl rfl ?_
    show Steps p.tables e below (T9.setTop (mkF m 29 #[.val (.ref a1)] [(.ref a1)])) _
    refine XS.bipush X9.here hx rfl (hb hby d1_29) ?_
    show Steps p.tables e below (T9.setTop (mkF m 31 #[.val (.ref a1)] [(.int (64 : Int32)), (.ref a1)])) _
    refine st11 _ ?_
    show Steps p.tables e below (T11.setTop (mkF m 33 #[.val (.ref a1)] [(.ref b11), (.ref a1)])) _
    refine st12 _ ?_
    exact k
  obtain ⟨fs, hr, hrun, hended, hW, hsame⟩ := X12.leave (v := none) (fun _ => rfl) (hlocks := BodyLoose.notSynchronized Bd)
  refine ⟨_, _, pre13 _ ?_, hrun, hended, _, _, rfl, ?_, ⟨_, rfl⟩, hW, hsame.mono (by decide) (by decide)⟩
  · show Steps p.tables e below (T12.setTop (mkF m 36 #[.val (.ref a1)] [])) _
    exact X12.returnOut hx Bd.returns (hb hby d1_36) hr
  · show Qi Z a1 h0 n0 _ T12.heap _
    rw [e12]
    exact ⟨rfl, N12, fZ_12, ⟨fE_12, fstart_12, fcount_12, ffloats_12, b2, b5, b8, b11, ⟨fends_12, fpayments_12, ffixings_12, fdays_12⟩, ⟨ge_b2, ge_b5, ge_b8, ge_b11⟩, ⟨ne_b5, ne_b8, ne_b11⟩, fAends_12, own_IA_ix fApayments_12, own_IA_ix fAfixings_12, own_IA_ix fAdays_12⟩⟩
def Qb (Z : State) (a1 : Addr) (q2 : Int64) (p3 p4 : Int32) (h0 : Heap) (n0 : Nat) (v : Option Value) (h : Heap) (L : List Loc) : Prop := v = none ∧ Fr n0 L ∧ n0 ≤ h.size ∧ ∃ (N : Nat) (f : Nat → Int32), p3.toInt ≤ (N : Int) ∧ own_PD Z h n0 a1 N f q2 p3 (nar .boolean p4)
theorem d3_0 : decode prog_36_method_2_code 0 = .ok (.aload_n 0, 1) := by decide +kernel
theorem d3_1 : decode prog_36_method_2_code 1 = .ok (.getfield 9, 3) := by decide +kernel
theorem d3_4 : decode prog_36_method_2_code 4 = .ok (.arraylength, 1) := by decide +kernel
theorem d3_5 : decode prog_36_method_2_code 5 = .ok (.iload_n 3, 1) := by decide +kernel
theorem d3_6 : decode prog_36_method_2_code 6 = .ok (.if_icmp .ge 48, 3) := by decide +kernel
theorem d3_9 : decode prog_36_method_2_code 9 = .ok (.iload_n 3, 1) := by decide +kernel
theorem d3_10 : decode prog_36_method_2_code 10 = .ok (.iconst 2, 1) := by decide +kernel
theorem d3_11 : decode prog_36_method_2_code 11 = .ok (.aload_n 0, 1) := by decide +kernel
theorem d3_12 : decode prog_36_method_2_code 12 = .ok (.getfield 9, 3) := by decide +kernel
theorem d3_15 : decode prog_36_method_2_code 15 = .ok (.arraylength, 1) := by decide +kernel
theorem d3_16 : decode prog_36_method_2_code 16 = .ok (.imul, 1) := by decide +kernel
theorem d3_17 : decode prog_36_method_2_code 17 = .ok (.invokestatic 22, 3) := by decide +kernel
theorem pd_0 : parseMethodDescriptor "(II)I" = some ⟨[.int, .int], some .int⟩ := by decide +kernel
theorem d3_20 : decode prog_36_method_2_code 20 = .ok (.istore 5, 2) := by decide +kernel
theorem d3_22 : decode prog_36_method_2_code 22 = .ok (.aload_n 0, 1) := by decide +kernel
theorem d3_23 : decode prog_36_method_2_code 23 = .ok (.iload 5, 2) := by decide +kernel
theorem d3_25 : decode prog_36_method_2_code 25 = .ok (.newarray .int, 2) := by decide +kernel
theorem d3_27 : decode prog_36_method_2_code 27 = .ok (.putfield 9, 3) := by decide +kernel
theorem d3_30 : decode prog_36_method_2_code 30 = .ok (.aload_n 0, 1) := by decide +kernel
theorem d3_31 : decode prog_36_method_2_code 31 = .ok (.iload 5, 2) := by decide +kernel
theorem d3_33 : decode prog_36_method_2_code 33 = .ok (.newarray .int, 2) := by decide +kernel
theorem d3_35 : decode prog_36_method_2_code 35 = .ok (.putfield 13, 3) := by decide +kernel
theorem d3_38 : decode prog_36_method_2_code 38 = .ok (.aload_n 0, 1) := by decide +kernel
theorem d3_39 : decode prog_36_method_2_code 39 = .ok (.iload 5, 2) := by decide +kernel
theorem d3_41 : decode prog_36_method_2_code 41 = .ok (.newarray .int, 2) := by decide +kernel
theorem d3_43 : decode prog_36_method_2_code 43 = .ok (.putfield 16, 3) := by decide +kernel
theorem d3_46 : decode prog_36_method_2_code 46 = .ok (.aload_n 0, 1) := by decide +kernel
theorem d3_47 : decode prog_36_method_2_code 47 = .ok (.iload 5, 2) := by decide +kernel
theorem d3_49 : decode prog_36_method_2_code 49 = .ok (.newarray .int, 2) := by decide +kernel
theorem d3_51 : decode prog_36_method_2_code 51 = .ok (.putfield 19, 3) := by decide +kernel
theorem d3_54 : decode prog_36_method_2_code 54 = .ok (.aload_n 0, 1) := by decide +kernel
theorem d3_55 : decode prog_36_method_2_code 55 = .ok (.lload_n 1, 1) := by decide +kernel
theorem d3_56 : decode prog_36_method_2_code 56 = .ok (.putfield 28, 3) := by decide +kernel
theorem d3_59 : decode prog_36_method_2_code 59 = .ok (.aload_n 0, 1) := by decide +kernel
theorem d3_60 : decode prog_36_method_2_code 60 = .ok (.iload_n 3, 1) := by decide +kernel
theorem d3_61 : decode prog_36_method_2_code 61 = .ok (.putfield 32, 3) := by decide +kernel
theorem d3_64 : decode prog_36_method_2_code 64 = .ok (.aload_n 0, 1) := by decide +kernel
theorem d3_65 : decode prog_36_method_2_code 65 = .ok (.iload 4, 2) := by decide +kernel
theorem d3_67 : decode prog_36_method_2_code 67 = .ok (.putfield 36, 3) := by decide +kernel
theorem d3_70 : decode prog_36_method_2_code 70 = .ok (.return_, 1) := by decide +kernel
theorem ef_3 (m : MethodId) (a1 : Addr) (q2 : Int64) (p3 : Int32) (p4 : Int32) : entryFrame m #[(.ref a1), (.long q2), (.int p3), (.int p4)] 6 = mkF m 0 #[.val (.ref a1), .val (.long q2), .second, .val (.int p3), .val (.int p4), .unset] [] := by first | (simp [entryFrame, mkF, argsToLocals, Value.category]; done) | rfl
set_option maxRecDepth 65536 in
set_option maxHeartbeats 40000000 in
theorem rmB (l : Launch) (Z : State) (a0 : Array Value) (hw : ∀ d ∈ tables_1, d.before a0 Z = true) (ws : List Jvm.Cond) (a1 : Addr) (q2 : Int64) (p3 : Int32) (p4 : Int32)  (h0 : Heap) (n0 : Nat) (Z0 : n0 ≤ h0.size) (P : own_PD Z h0 n0 a1 64 (fun _ => 0) 0 0 0) (ga : n0 ≤ a1) (hn : 3 ≤ p3.toInt ∧ p3.toInt ≤ 130) :
    MetFree l (⟨"com/example/vilkarsbok/vilkarsbok/PeriodDays", "begin", "(JIZ)V"⟩ : MethodName) (head1 (Jvm.Cond.code (⟨"com/example/vilkarsbok/vilkarsbok/PeriodDays", "begin", "(JIZ)V"⟩ : MethodName) prog_36_method_2_code 6 none :: ws) ({ frames := 1, cells := 4, slots := 520, locals := 13 } : Room)) (fun a U => a = #[(.ref a1), (.long q2), (.int p3), (.int p4)] ∧ Z.Warmed39 U.vm ∧ U.heap = h0) (fun _ _ _ _ _ => True) (fun _ U o U' => ∃ v L, o = .returned v ∧ Qb Z a1 q2 p3 p4 h0 n0 v U'.heap L ∧ FrameEnd U o U' L ({ frames := 1, cells := 4, slots := 520, locals := 13 } : Room).cells ({ frames := 1, cells := 4, slots := 520, locals := 13 } : Room).slots) := by
  refine MetFree.of_bodySF (plainFor_of_name pn_0) hisR ?_
  intro p e s m args below meth c s₁ Bd hml0 hP hK
  obtain ⟨rfl, hZ, hh⟩ := hP
  have hx := Bd.exec
  have hby := Bd.bytes
  have hml : c.maxLocals = 6 := hml0
  have hown : s.vm.findClass "com/example/vilkarsbok/vilkarsbok/PeriodDays" = some m.cls := findClass_of_methodNamed Bd.named
  have hnm := (name_of_methodNamed Bd.named Bd.method).1
  have X0 : Stand p l e ({ frames := 1, cells := 4, slots := 520, locals := 13 } : Room) s m #[(.ref a1), (.long q2), (.int p3), (.int p4)] below meth c s₁ [] 0 0 := Stand.of_body Bd
  have e0 : s₁.heap = h0 := by rw [← hh, Bd.state]; rfl
  have N0 := Fr.nil n0
  have pre0 : ∀ t, Steps p.tables e below (s₁.setTop (mkF m 0 #[.val (.ref a1), .val (.long q2), .second, .val (.int p3), .val (.int p4), .unset] [])) t → Steps p.tables e below (s₁.setTop (entryFrame m #[(.ref a1), (.long q2), (.int p3), (.int p4)] 6)) t := fun t k => castTop (ef_3 m a1 q2 p3 p4) k
  obtain ⟨oE, o_start, o_count, o_floats, t1, t2, t3, t4, ⟨o_ends, o_payments, o_fixings, o_days⟩, ⟨ge1, ge2, ge3, ge4⟩, ⟨ne2, ne3, ne4⟩, A1, A2, A3, A4⟩ := P
  have A1' := A1
  obtain ⟨cl, Ar, Sz, Hc⟩ := A1'
  have Sz' : cl.slots.size = (64 : Int32).toNatClampNeg := Sz
  obtain ⟨T1, X1, e1, st1⟩ := getF X0 hx hZ hown (host := "") (Or.inl (hw _ (List.mem_of_getElem? (i := 10) rfl))) Via.refl e0 o_ends (g := (mkF m 1 #[.val (.ref a1), .val (.long q2), .second, .val (.int p3), .val (.int p4), .unset] [(.ref a1)])) rfl rfl (hb hby d3_1)
  have pre2 : ∀ t, Steps p.tables e below (T1.setTop (mkF m 6 #[.val (.ref a1), .val (.long q2), .second, .val (.int p3), .val (.int p4), .unset] [(.int p3), (.int (64 : Int32))])) t → Steps p.tables e below (s₁.setTop (entryFrame m #[(.ref a1), (.long q2), (.int p3), (.int p4)] 6)) t := by
    intro t k
    refine pre0 t ?_
    show Steps p.tables e below (s₁.setTop (mkF m 0 #[.val (.ref a1), .val (.long q2), .second, .val (.int p3), .val (.int p4), .unset] [])) _
    refine XS.aloadN X0.here hx rfl (hb hby d3_0) rfl rfl ?_
    show Steps p.tables e below (s₁.setTop (mkF m 1 #[.val (.ref a1), .val (.long q2), .second, .val (.int p3), .val (.int p4), .unset] [(.ref a1)])) _
    refine st1 _ ?_
    show Steps p.tables e below (T1.setTop (mkF m 4 #[.val (.ref a1), .val (.long q2), .second, .val (.int p3), .val (.int p4), .unset] [(.ref t1)])) _
    refine X1.arraylength hx (by rw [e1]; exact Ar.1) (State.isArrayOf_alike hZ.alike Ar.2.1) (g := (mkF m 4 #[.val (.ref a1), .val (.long q2), .second, .val (.int p3), .val (.int p4), .unset] [(.ref t1)])) rfl rfl (hb hby d3_4) _ ?_
    rw [len_of Sz' (by decide)]
    show Steps p.tables e below (T1.setTop (mkF m 5 #[.val (.ref a1), .val (.long q2), .second, .val (.int p3), .val (.int p4), .unset] [(.int (64 : Int32))])) _
    refine XS.iloadN X1.here hx rfl (hb hby d3_5) rfl ?_
    exact k
  by_cases c6 : (64 : Int32) < p3
  · obtain ⟨T3, X3, e3, st3⟩ := getF X1 hx hZ hown (host := "") (Or.inl (hw _ (List.mem_of_getElem? (i := 10) rfl))) Via.refl e1 o_ends (g := (mkF m 12 #[.val (.ref a1), .val (.long q2), .second, .val (.int p3), .val (.int p4), .unset] [(.ref a1), (.int (2 : Int32)), (.int p3)])) rfl rfl (hb hby d3_12)
    obtain ⟨_, _, ⟨T4, L4, k4, n4⟩, -, X4, ⟨Lc4, hQ4, l4, y4, z4⟩, st4⟩ := Jvm.LawKit.callS X3 hx (y := (⟨"java/lang/Math", "max", "(II)I"⟩ : MethodName)) hown (mvT hZ (hw _ (List.mem_of_getElem? (i := 39) rfl))) (mvT hZ (hw _ (List.mem_of_getElem? (i := 40) rfl))) (mvT hZ (hw _ (List.mem_of_getElem? (i := 41) rfl))) (mvT hZ (hw _ (List.mem_of_getElem? (i := 42) rfl))) (by decide) (backOf (W := 0) (rmX l Z a0 hw [] p3 ((2 : Int32) * (64 : Int32)) h0 n0 Z0) hZ (hw _ (List.mem_of_getElem? (i := 42) rfl)) (hw _ (List.mem_of_getElem? (i := 41) rfl)) (by decide) (by decide)) (g := (mkF m 17 #[.val (.ref a1), .val (.long q2), .second, .val (.int p3), .val (.int p4), .unset] [(.int ((2 : Int32) * (64 : Int32))), (.int p3)])) rfl (by rw [hml]; rfl) (argsL := [(.int p3), (.int ((2 : Int32) * (64 : Int32)))]) (rest := []) (lenOf pd_0 rfl) rfl (by show 2 * 0 + _ ≤ _; exact Nat.le_of_eq rfl) (hb hby d3_17) (fun _ _ => ⟨rfl, e3, (by decide : 0 + 0 ≤ _), (by decide : 0 + 0 ≤ _)⟩)
    dsimp only [Pt.U, Pt.locs, Pt.cells, Pt.slots] at X4 l4 y4 z4 st4 hQ4
    subst l4 y4 z4
    obtain ⟨⟨r, rfl, hr1⟩, N4q, e4⟩ := hQ4
    have N4 := Fr.app N0 N4q
    obtain ⟨r0, r1, r2⟩ := own_max hn hr1
    obtain ⟨T5, h5, k5, X5, e5, E5, A5, st5⟩ := newP X4 hx hZ (hw _ (List.mem_of_getElem? (i := 9) rfl)) e4 (g := (mkF m 25 #[.val (.ref a1), .val (.long q2), .second, .val (.int p3), .val (.int p4), .val (.int r)] [(.int r), (.ref a1)])) rfl (hb hby d3_25) rfl r0 (cap := 130) r1 (by decide) (by decide) (by decide)
    obtain ⟨b5, g5⟩ : ∃ z, z = h0.size := ⟨_, rfl⟩
    rw [← g5] at A5 st5
    have V_b5 := Arv.new A5 r0
    have ge_b5 : n0 ≤ b5 := Nat.le_trans Z0 (Nat.le_of_eq g5.symm)
    have fends_5 := o_ends.ext E5
    have fpayments_5 := o_payments.ext E5
    have ffixings_5 := o_fixings.ext E5
    have fdays_5 := o_days.ext E5
    have fstart_5 := o_start.ext E5
    have fcount_5 := o_count.ext E5
    have ffloats_5 := o_floats.ext E5
    have fE_5 := oE.ext E5
    have fZ_5 := Nat.le_trans Z0 E5.1
    have fAends_5 := own_IA_new A5
    obtain ⟨T6, h6, X6, e6, W6, st6⟩ := putF X5 hx hZ hown (host := "") (Or.inl (hw _ (List.mem_of_getElem? (i := 10) rfl))) Via.refl e5 fends_5 fE_5 (Or.inl (hw _ (List.mem_of_getElem? (i := 11) rfl))) (hw _ (List.mem_of_getElem? (i := 1) rfl)) (ty := (.array .int)) (by decide) rfl rfl (g := (mkF m 27 #[.val (.ref a1), .val (.long q2), .second, .val (.int p3), .val (.int p4), .val (.int r)] [(.ref b5), (.ref a1)])) rfl rfl (hb hby d3_27)
    have N6 := Fr.snoc X6 N4 ga
    have fAends_6 := own_IA_other fAends_5 W6 (own_IA_ne fAends_5 fE_5 (hw _ (List.mem_of_getElem? (i := 1) rfl)))
    have fends_6 := fends_5.same W6
    have fpayments_6 := fpayments_5.other W6 (Or.inr (slot_ne (Or.inl (hw _ (List.mem_of_getElem? (i := 13) rfl))) (Or.inl (hw _ (List.mem_of_getElem? (i := 11) rfl))) (by decide) (t := (.array .int)) (t' := (.array .int)) (by decide) (by decide)))
    have ffixings_6 := ffixings_5.other W6 (Or.inr (slot_ne (Or.inl (hw _ (List.mem_of_getElem? (i := 15) rfl))) (Or.inl (hw _ (List.mem_of_getElem? (i := 11) rfl))) (by decide) (t := (.array .int)) (t' := (.array .int)) (by decide) (by decide)))
    have fdays_6 := fdays_5.other W6 (Or.inr (slot_ne (Or.inl (hw _ (List.mem_of_getElem? (i := 17) rfl))) (Or.inl (hw _ (List.mem_of_getElem? (i := 11) rfl))) (by decide) (t := (.array .int)) (t' := (.array .int)) (by decide) (by decide)))
    have fstart_6 := fstart_5.other W6 (Or.inr (slot_ne (Or.inl (hw _ (List.mem_of_getElem? (i := 24) rfl))) (Or.inl (hw _ (List.mem_of_getElem? (i := 11) rfl))) (by decide) (t := .long) (t' := (.array .int)) (by decide) (by decide)))
    have fcount_6 := fcount_5.other W6 (Or.inr (slot_ne (Or.inl (hw _ (List.mem_of_getElem? (i := 26) rfl))) (Or.inl (hw _ (List.mem_of_getElem? (i := 11) rfl))) (by decide) (t := .int) (t' := (.array .int)) (by decide) (by decide)))
    have ffloats_6 := ffloats_5.other W6 (Or.inr (slot_ne (Or.inl (hw _ (List.mem_of_getElem? (i := 28) rfl))) (Or.inl (hw _ (List.mem_of_getElem? (i := 11) rfl))) (by decide) (t := .boolean) (t' := (.array .int)) (by decide) (by decide)))
    have fE_6 := fE_5.wr W6
    have fZ_6 := Nat.le_trans fZ_5 (Keep.of_wr W6).1
    have pre7 : ∀ t, Steps p.tables e below (T6.setTop (mkF m 30 #[.val (.ref a1), .val (.long q2), .second, .val (.int p3), .val (.int p4), .val (.int r)] [])) t → Steps p.tables e below (s₁.setTop (entryFrame m #[(.ref a1), (.long q2), (.int p3), (.int p4)] 6)) t := by
      intro t k
      refine pre2 t ?_
      show Steps p.tables e below (T1.setTop (mkF m 6 #[.val (.ref a1), .val (.long q2), .second, .val (.int p3), .val (.int p4), .unset] [(.int p3), (.int (64 : Int32))])) _
      refine XS.icmpNo X1.here hx rfl (hb hby d3_6) rfl (tlt c6).2.1 ?_
      show Steps p.tables e below (T1.setTop (mkF m 9 #[.val (.ref a1), .val (.long q2), .second, .val (.int p3), .val (.int p4), .unset] [])) _
      refine XS.iloadN X1.here hx rfl (hb hby d3_9) rfl ?_
      show Steps p.tables e below (T1.setTop (mkF m 10 #[.val (.ref a1), .val (.long q2), .second, .val (.int p3), .val (.int p4), .unset] [(.int p3)])) _
      refine XS.iconst X1.here hx rfl (hb hby d3_10) ?_
      show Steps p.tables e below (T1.setTop (mkF m 11 #[.val (.ref a1), .val (.long q2), .second, .val (.int p3), .val (.int p4), .unset] [(.int (2 : Int32)), (.int p3)])) _
      refine XS.aloadN X1.here hx rfl (hb hby d3_11) rfl rfl ?_
      show Steps p.tables e below (T1.setTop (mkF m 12 #[.val (.ref a1), .val (.long q2), .second, .val (.int p3), .val (.int p4), .unset] [(.ref a1), (.int (2 : Int32)), (.int p3)])) _
      refine st3 _ ?_
      show Steps p.tables e below (T3.setTop (mkF m 15 #[.val (.ref a1), .val (.long q2), .second, .val (.int p3), .val (.int p4), .unset] [(.ref t1), (.int (2 : Int32)), (.int p3)])) _
      refine X3.arraylength hx (by rw [e3]; exact Ar.1) (State.isArrayOf_alike hZ.alike Ar.2.1) (g := (mkF m 15 #[.val (.ref a1), .val (.long q2), .second, .val (.int p3), .val (.int p4), .unset] [(.ref t1), (.int (2 : Int32)), (.int p3)])) rfl rfl (hb hby d3_15) _ ?_
      rw [len_of Sz' (by decide)]
      show Steps p.tables e below (T3.setTop (mkF m 16 #[.val (.ref a1), .val (.long q2), .second, .val (.int p3), .val (.int p4), .unset] [(.int (64 : Int32)), (.int (2 : Int32)), (.int p3)])) _
      refine XS.imul X3.here hx rfl (hb hby d3_16) rfl ?_
      show Steps p.tables e below (T3.setTop (mkF m 17 #[.val (.ref a1), .val (.long q2), .second, .val (.int p3), .val (.int p4), .unset] [(.int ((2 : Int32) * (64 : Int32))), (.int p3)])) _
      refine st4 _ ?_
      show Steps p.tables e below (T4.setTop (mkF m 20 #[.val (.ref a1), .val (.long q2), .second, .val (.int p3), .val (.int p4), .unset] [(.int r)])) _
      refine XS.istore X4.here hx rfl (hb hby d3_20) rfl (l' := #[.val (.ref a1), .val (.long q2), .second, .val (.int p3), .val (.int p4), .val (.int r)]) rfl ?_
      show Steps p.tables e below (T4.setTop (mkF m 22 #[.val (.ref a1), .val (.long q2), .second, .val (.int p3), .val (.int p4), .val (.int r)] [])) _
      refine XS.aloadN X4.here hx rfl (hb hby d3_22) rfl rfl ?_
      show Steps p.tables e below (T4.setTop (mkF m 23 #[.val (.ref a1), .val (.long q2), .second, .val (.int p3), .val (.int p4), .val (.int r)] [(.ref a1)])) _
      refine XS.iload X4.here hx rfl (hb hby d3_23) rfl ?_
      show Steps p.tables e below (T4.setTop (mkF m 25 #[.val (.ref a1), .val (.long q2), .second, .val (.int p3), .val (.int p4), .val (.int r)] [(.int r), (.ref a1)])) _
      refine st5 _ ?_
      show Steps p.tables e below (T5.setTop (mkF m 27 #[.val (.ref a1), .val (.long q2), .second, .val (.int p3), .val (.int p4), .val (.int r)] [(.ref b5), (.ref a1)])) _
      refine st6 _ ?_
      exact k
    obtain ⟨T8, h8, k8, X8, e8, E8, A8, st8⟩ := newP X6 hx hZ (hw _ (List.mem_of_getElem? (i := 9) rfl)) e6 (g := (mkF m 33 #[.val (.ref a1), .val (.long q2), .second, .val (.int p3), .val (.int p4), .val (.int r)] [(.int r), (.ref a1)])) rfl (hb hby d3_33) rfl r0 (cap := 130) r1 (by decide) (by decide) (by decide)
    obtain ⟨b8, g8⟩ : ∃ z, z = h6.size := ⟨_, rfl⟩
    rw [← g8] at A8 st8
    have V_b8 := Arv.new A8 r0
    have ge_b8 : n0 ≤ b8 := Nat.le_trans fZ_6 (Nat.le_of_eq g8.symm)
    have ne_b8 : b5 ≠ b8 := Nat.ne_of_lt (Nat.lt_of_lt_of_le (own_IA_lt fAends_6) (Nat.le_of_eq g8.symm))
    have fends_8 := fends_6.ext E8
    have fpayments_8 := fpayments_6.ext E8
    have ffixings_8 := ffixings_6.ext E8
    have fdays_8 := fdays_6.ext E8
    have fstart_8 := fstart_6.ext E8
    have fcount_8 := fcount_6.ext E8
    have ffloats_8 := ffloats_6.ext E8
    have fE_8 := fE_6.ext E8
    have fZ_8 := Nat.le_trans fZ_6 E8.1
    have fAends_8 := own_IA_ext fAends_6 E8
    have fApayments_8 := own_IA_new A8
    obtain ⟨T9, h9, X9, e9, W9, st9⟩ := putF X8 hx hZ hown (host := "") (Or.inl (hw _ (List.mem_of_getElem? (i := 12) rfl))) Via.refl e8 fpayments_8 fE_8 (Or.inl (hw _ (List.mem_of_getElem? (i := 13) rfl))) (hw _ (List.mem_of_getElem? (i := 1) rfl)) (ty := (.array .int)) (by decide) rfl rfl (g := (mkF m 35 #[.val (.ref a1), .val (.long q2), .second, .val (.int p3), .val (.int p4), .val (.int r)] [(.ref b8), (.ref a1)])) rfl rfl (hb hby d3_35)
    have N9 := Fr.snoc X9 N6 ga
    have fAends_9 := own_IA_other fAends_8 W9 (own_IA_ne fAends_8 fE_8 (hw _ (List.mem_of_getElem? (i := 1) rfl)))
    have fApayments_9 := own_IA_other fApayments_8 W9 (own_IA_ne fApayments_8 fE_8 (hw _ (List.mem_of_getElem? (i := 1) rfl)))
    have fends_9 := fends_8.other W9 (Or.inr (slot_ne (Or.inl (hw _ (List.mem_of_getElem? (i := 11) rfl))) (Or.inl (hw _ (List.mem_of_getElem? (i := 13) rfl))) (by decide) (t := (.array .int)) (t' := (.array .int)) (by decide) (by decide)))
    have fpayments_9 := fpayments_8.same W9
    have ffixings_9 := ffixings_8.other W9 (Or.inr (slot_ne (Or.inl (hw _ (List.mem_of_getElem? (i := 15) rfl))) (Or.inl (hw _ (List.mem_of_getElem? (i := 13) rfl))) (by decide) (t := (.array .int)) (t' := (.array .int)) (by decide) (by decide)))
    have fdays_9 := fdays_8.other W9 (Or.inr (slot_ne (Or.inl (hw _ (List.mem_of_getElem? (i := 17) rfl))) (Or.inl (hw _ (List.mem_of_getElem? (i := 13) rfl))) (by decide) (t := (.array .int)) (t' := (.array .int)) (by decide) (by decide)))
    have fstart_9 := fstart_8.other W9 (Or.inr (slot_ne (Or.inl (hw _ (List.mem_of_getElem? (i := 24) rfl))) (Or.inl (hw _ (List.mem_of_getElem? (i := 13) rfl))) (by decide) (t := .long) (t' := (.array .int)) (by decide) (by decide)))
    have fcount_9 := fcount_8.other W9 (Or.inr (slot_ne (Or.inl (hw _ (List.mem_of_getElem? (i := 26) rfl))) (Or.inl (hw _ (List.mem_of_getElem? (i := 13) rfl))) (by decide) (t := .int) (t' := (.array .int)) (by decide) (by decide)))
    have ffloats_9 := ffloats_8.other W9 (Or.inr (slot_ne (Or.inl (hw _ (List.mem_of_getElem? (i := 28) rfl))) (Or.inl (hw _ (List.mem_of_getElem? (i := 13) rfl))) (by decide) (t := .boolean) (t' := (.array .int)) (by decide) (by decide)))
    have fE_9 := fE_8.wr W9
    have fZ_9 := Nat.le_trans fZ_8 (Keep.of_wr W9).1
    have pre10 : ∀ t, Steps p.tables e below (T9.setTop (mkF m 38 #[.val (.ref a1), .val (.long q2), .second, .val (.int p3), .val (.int p4), .val (.int r)] [])) t → Steps p.tables e below (s₁.setTop (entryFrame m #[(.ref a1), (.long q2), (.int p3), (.int p4)] 6)) t := by
      intro t k
      refine pre7 t ?_
      show Steps p.tables e below (T6.setTop (mkF m 30 #[.val (.ref a1), .val (.long q2), .second, .val (.int p3), .val (.int p4), .val (.int r)] [])) _
      refine XS.aloadN X6.here hx rfl (hb hby d3_30) rfl rfl ?_
      show Steps p.tables e below (T6.setTop (mkF m 31 #[.val (.ref a1), .val (.long q2), .second, .val (.int p3), .val (.int p4), .val (.int r)] [(.ref a1)])) _
      refine XS.iload X6.here hx rfl (hb hby d3_31) rfl ?_
      show Steps p.tables e below (T6.setTop (mkF m 33 #[.val (.ref a1), .val (.long q2), .second, .val (.int p3), .val (.int p4), .val (.int r)] [(.int r), (.ref a1)])) _
      refine st8 _ ?_
      show Steps p.tables e below (T8.setTop (mkF m 35 #[.val (.ref a1), .val (.long q2), .second, .val (.int p3), .val (.int p4), .val (.int r)] [(.ref b8), (.ref a1)])) _
      refine st9 _ ?_
      exact k
    obtain ⟨T11, h11, k11, X11, e11, E11, A11, st11⟩ := newP X9 hx hZ (hw _ (List.mem_of_getElem? (i := 9) rfl)) e9 (g := (mkF m 41 #[.val (.ref a1), .val (.long q2), .second, .val (.int p3), .val (.int p4), .val (.int r)] [(.int r), (.ref a1)])) rfl (hb hby d3_41) rfl r0 (cap := 130) r1 (by decide) (by decide) (by decide)
    obtain ⟨b11, g11⟩ : ∃ z, z = h9.size := ⟨_, rfl⟩
    rw [← g11] at A11 st11
    have V_b11 := Arv.new A11 r0
    have ge_b11 : n0 ≤ b11 := Nat.le_trans fZ_9 (Nat.le_of_eq g11.symm)
    have ne_b11 : b5 ≠ b11 := Nat.ne_of_lt (Nat.lt_of_lt_of_le (own_IA_lt fAends_9) (Nat.le_of_eq g11.symm))
    have fends_11 := fends_9.ext E11
    have fpayments_11 := fpayments_9.ext E11
    have ffixings_11 := ffixings_9.ext E11
    have fdays_11 := fdays_9.ext E11
    have fstart_11 := fstart_9.ext E11
    have fcount_11 := fcount_9.ext E11
    have ffloats_11 := ffloats_9.ext E11
    have fE_11 := fE_9.ext E11
    have fZ_11 := Nat.le_trans fZ_9 E11.1
    have fAends_11 := own_IA_ext fAends_9 E11
    have fApayments_11 := own_IA_ext fApayments_9 E11
    have fAfixings_11 := own_IA_new A11
    obtain ⟨T12, h12, X12, e12, W12, st12⟩ := putF X11 hx hZ hown (host := "") (Or.inl (hw _ (List.mem_of_getElem? (i := 14) rfl))) Via.refl e11 ffixings_11 fE_11 (Or.inl (hw _ (List.mem_of_getElem? (i := 15) rfl))) (hw _ (List.mem_of_getElem? (i := 1) rfl)) (ty := (.array .int)) (by decide) rfl rfl (g := (mkF m 43 #[.val (.ref a1), .val (.long q2), .second, .val (.int p3), .val (.int p4), .val (.int r)] [(.ref b11), (.ref a1)])) rfl rfl (hb hby d3_43)
    have N12 := Fr.snoc X12 N9 ga
    have fAends_12 := own_IA_other fAends_11 W12 (own_IA_ne fAends_11 fE_11 (hw _ (List.mem_of_getElem? (i := 1) rfl)))
    have fApayments_12 := own_IA_other fApayments_11 W12 (own_IA_ne fApayments_11 fE_11 (hw _ (List.mem_of_getElem? (i := 1) rfl)))
    have fAfixings_12 := own_IA_other fAfixings_11 W12 (own_IA_ne fAfixings_11 fE_11 (hw _ (List.mem_of_getElem? (i := 1) rfl)))
    have fends_12 := fends_11.other W12 (Or.inr (slot_ne (Or.inl (hw _ (List.mem_of_getElem? (i := 11) rfl))) (Or.inl (hw _ (List.mem_of_getElem? (i := 15) rfl))) (by decide) (t := (.array .int)) (t' := (.array .int)) (by decide) (by decide)))
    have fpayments_12 := fpayments_11.other W12 (Or.inr (slot_ne (Or.inl (hw _ (List.mem_of_getElem? (i := 13) rfl))) (Or.inl (hw _ (List.mem_of_getElem? (i := 15) rfl))) (by decide) (t := (.array .int)) (t' := (.array .int)) (by decide) (by decide)))
    have ffixings_12 := ffixings_11.same W12
    have fdays_12 := fdays_11.other W12 (Or.inr (slot_ne (Or.inl (hw _ (List.mem_of_getElem? (i := 17) rfl))) (Or.inl (hw _ (List.mem_of_getElem? (i := 15) rfl))) (by decide) (t := (.array .int)) (t' := (.array .int)) (by decide) (by decide)))
    have fstart_12 := fstart_11.other W12 (Or.inr (slot_ne (Or.inl (hw _ (List.mem_of_getElem? (i := 24) rfl))) (Or.inl (hw _ (List.mem_of_getElem? (i := 15) rfl))) (by decide) (t := .long) (t' := (.array .int)) (by decide) (by decide)))
    have fcount_12 := fcount_11.other W12 (Or.inr (slot_ne (Or.inl (hw _ (List.mem_of_getElem? (i := 26) rfl))) (Or.inl (hw _ (List.mem_of_getElem? (i := 15) rfl))) (by decide) (t := .int) (t' := (.array .int)) (by decide) (by decide)))
    have ffloats_12 := ffloats_11.other W12 (Or.inr (slot_ne (Or.inl (hw _ (List.mem_of_getElem? (i := 28) rfl))) (Or.inl (hw _ (List.mem_of_getElem? (i := 15) rfl))) (by decide) (t := .boolean) (t' := (.array .int)) (by decide) (by decide)))
    have fE_12 := fE_11.wr W12
    have fZ_12 := Nat.le_trans fZ_11 (Keep.of_wr W12).1
    have pre13 : ∀ t, Steps p.tables e below (T12.setTop (mkF m 46 #[.val (.ref a1), .val (.long q2), .second, .val (.int p3), .val (.int p4), .val (.int r)] [])) t → Steps p.tables e below (s₁.setTop (entryFrame m #[(.ref a1), (.long q2), (.int p3), (.int p4)] 6)) t := by
      intro t k
      refine pre10 t ?_
      show Steps p.tables e below (T9.setTop (mkF m 38 #[.val (.ref a1), .val (.long q2), .second, .val (.int p3), .val (.int p4), .val (.int r)] [])) _
      refine XS.aloadN X9.here hx rfl (hb hby d3_38) rfl rfl ?_
      show Steps p.tables e below (T9.setTop (mkF m 39 #[.val (.ref a1), .val (.long q2), .second, .val (.int p3), .val (.int p4), .val (.int r)] [(.ref a1)])) _
      refine XS.iload X9.here hx rfl (hb hby d3_39) rfl ?_
      show Steps p.tables e below (T9.setTop (mkF m 41 #[.val (.ref a1), .val (.long q2), .second, .val (.int p3), .val (.int p4), .val (.int r)] [(.int r), (.ref a1)])) _
      refine st11 _ ?_
      show Steps p.tables e below (T11.setTop (mkF m 43 #[.val (.ref a1), .val (.long q2), .second, .val (.int p3), .val (.int p4), .val (.int r)] [(.ref b11), (.ref a1)])) _
      refine st12 _ ?_
      exact k
    obtain ⟨T14, h14, k14, X14, e14, E14, A14, st14⟩ := newP X12 hx hZ (hw _ (List.mem_of_getElem? (i := 9) rfl)) e12 (g := (mkF m 49 #[.val (.ref a1), .val (.long q2), .second, .val (.int p3), .val (.int p4), .val (.int r)] [(.int r), (.ref a1)])) rfl (hb hby d3_49) rfl r0 (cap := 130) r1 (by decide) (by decide) (by decide)
    obtain ⟨b14, g14⟩ : ∃ z, z = h12.size := ⟨_, rfl⟩
    rw [← g14] at A14 st14
    have V_b14 := Arv.new A14 r0
    have ge_b14 : n0 ≤ b14 := Nat.le_trans fZ_12 (Nat.le_of_eq g14.symm)
    have ne_b14 : b5 ≠ b14 := Nat.ne_of_lt (Nat.lt_of_lt_of_le (own_IA_lt fAends_12) (Nat.le_of_eq g14.symm))
    have fends_14 := fends_12.ext E14
    have fpayments_14 := fpayments_12.ext E14
    have ffixings_14 := ffixings_12.ext E14
    have fdays_14 := fdays_12.ext E14
    have fstart_14 := fstart_12.ext E14
    have fcount_14 := fcount_12.ext E14
    have ffloats_14 := ffloats_12.ext E14
    have fE_14 := fE_12.ext E14
    have fZ_14 := Nat.le_trans fZ_12 E14.1
    have fAends_14 := own_IA_ext fAends_12 E14
    have fApayments_14 := own_IA_ext fApayments_12 E14
    have fAfixings_14 := own_IA_ext fAfixings_12 E14
    have fAdays_14 := own_IA_new A14
    obtain ⟨T15, h15, X15, e15, W15, st15⟩ := putF X14 hx hZ hown (host := "") (Or.inl (hw _ (List.mem_of_getElem? (i := 16) rfl))) Via.refl e14 fdays_14 fE_14 (Or.inl (hw _ (List.mem_of_getElem? (i := 17) rfl))) (hw _ (List.mem_of_getElem? (i := 1) rfl)) (ty := (.array .int)) (by decide) rfl rfl (g := (mkF m 51 #[.val (.ref a1), .val (.long q2), .second, .val (.int p3), .val (.int p4), .val (.int r)] [(.ref b14), (.ref a1)])) rfl rfl (hb hby d3_51)
    have N15 := Fr.snoc X15 N12 ga
    have fAends_15 := own_IA_other fAends_14 W15 (own_IA_ne fAends_14 fE_14 (hw _ (List.mem_of_getElem? (i := 1) rfl)))
    have fApayments_15 := own_IA_other fApayments_14 W15 (own_IA_ne fApayments_14 fE_14 (hw _ (List.mem_of_getElem? (i := 1) rfl)))
    have fAfixings_15 := own_IA_other fAfixings_14 W15 (own_IA_ne fAfixings_14 fE_14 (hw _ (List.mem_of_getElem? (i := 1) rfl)))
    have fAdays_15 := own_IA_other fAdays_14 W15 (own_IA_ne fAdays_14 fE_14 (hw _ (List.mem_of_getElem? (i := 1) rfl)))
    have fends_15 := fends_14.other W15 (Or.inr (slot_ne (Or.inl (hw _ (List.mem_of_getElem? (i := 11) rfl))) (Or.inl (hw _ (List.mem_of_getElem? (i := 17) rfl))) (by decide) (t := (.array .int)) (t' := (.array .int)) (by decide) (by decide)))
    have fpayments_15 := fpayments_14.other W15 (Or.inr (slot_ne (Or.inl (hw _ (List.mem_of_getElem? (i := 13) rfl))) (Or.inl (hw _ (List.mem_of_getElem? (i := 17) rfl))) (by decide) (t := (.array .int)) (t' := (.array .int)) (by decide) (by decide)))
    have ffixings_15 := ffixings_14.other W15 (Or.inr (slot_ne (Or.inl (hw _ (List.mem_of_getElem? (i := 15) rfl))) (Or.inl (hw _ (List.mem_of_getElem? (i := 17) rfl))) (by decide) (t := (.array .int)) (t' := (.array .int)) (by decide) (by decide)))
    have fdays_15 := fdays_14.same W15
    have fstart_15 := fstart_14.other W15 (Or.inr (slot_ne (Or.inl (hw _ (List.mem_of_getElem? (i := 24) rfl))) (Or.inl (hw _ (List.mem_of_getElem? (i := 17) rfl))) (by decide) (t := .long) (t' := (.array .int)) (by decide) (by decide)))
    have fcount_15 := fcount_14.other W15 (Or.inr (slot_ne (Or.inl (hw _ (List.mem_of_getElem? (i := 26) rfl))) (Or.inl (hw _ (List.mem_of_getElem? (i := 17) rfl))) (by decide) (t := .int) (t' := (.array .int)) (by decide) (by decide)))
    have ffloats_15 := ffloats_14.other W15 (Or.inr (slot_ne (Or.inl (hw _ (List.mem_of_getElem? (i := 28) rfl))) (Or.inl (hw _ (List.mem_of_getElem? (i := 17) rfl))) (by decide) (t := .boolean) (t' := (.array .int)) (by decide) (by decide)))
    have fE_15 := fE_14.wr W15
    have fZ_15 := Nat.le_trans fZ_14 (Keep.of_wr W15).1
    have pre16 : ∀ t, Steps p.tables e below (T15.setTop (mkF m 54 #[.val (.ref a1), .val (.long q2), .second, .val (.int p3), .val (.int p4), .val (.int r)] [])) t → Steps p.tables e below (s₁.setTop (entryFrame m #[(.ref a1), (.long q2), (.int p3), (.int p4)] 6)) t := by
      intro t k
      refine pre13 t ?_
      show Steps p.tables e below (T12.setTop (mkF m 46 #[.val (.ref a1), .val (.long q2), .second, .val (.int p3), .val (.int p4), .val (.int r)] [])) _
      refine XS.aloadN X12.here hx rfl (hb hby d3_46) rfl rfl ?_
      show Steps p.tables e below (T12.setTop (mkF m 47 #[.val (.ref a1), .val (.long q2), .second, .val (.int p3), .val (.int p4), .val (.int r)] [(.ref a1)])) _
      refine XS.iload X12.here hx rfl (hb hby d3_47) rfl ?_
      show Steps p.tables e below (T12.setTop (mkF m 49 #[.val (.ref a1), .val (.long q2), .second, .val (.int p3), .val (.int p4), .val (.int r)] [(.int r), (.ref a1)])) _
      refine st14 _ ?_
      show Steps p.tables e below (T14.setTop (mkF m 51 #[.val (.ref a1), .val (.long q2), .second, .val (.int p3), .val (.int p4), .val (.int r)] [(.ref b14), (.ref a1)])) _
      refine st15 _ ?_
      exact k
    obtain ⟨T17, h17, X17, e17, W17, st17⟩ := putF X15 hx hZ hown (host := "") (Or.inl (hw _ (List.mem_of_getElem? (i := 23) rfl))) Via.refl e15 fstart_15 fE_15 (Or.inl (hw _ (List.mem_of_getElem? (i := 24) rfl))) (hw _ (List.mem_of_getElem? (i := 1) rfl)) (ty := .long) (by decide) rfl rfl (g := (mkF m 56 #[.val (.ref a1), .val (.long q2), .second, .val (.int p3), .val (.int p4), .val (.int r)] [(.long q2), (.ref a1)])) rfl rfl (hb hby d3_56)
    have N17 := Fr.snoc X17 N15 ga
    have fAends_17 := own_IA_other fAends_15 W17 (own_IA_ne fAends_15 fE_15 (hw _ (List.mem_of_getElem? (i := 1) rfl)))
    have fApayments_17 := own_IA_other fApayments_15 W17 (own_IA_ne fApayments_15 fE_15 (hw _ (List.mem_of_getElem? (i := 1) rfl)))
    have fAfixings_17 := own_IA_other fAfixings_15 W17 (own_IA_ne fAfixings_15 fE_15 (hw _ (List.mem_of_getElem? (i := 1) rfl)))
    have fAdays_17 := own_IA_other fAdays_15 W17 (own_IA_ne fAdays_15 fE_15 (hw _ (List.mem_of_getElem? (i := 1) rfl)))
    have fends_17 := fends_15.other W17 (Or.inr (slot_ne (Or.inl (hw _ (List.mem_of_getElem? (i := 11) rfl))) (Or.inl (hw _ (List.mem_of_getElem? (i := 24) rfl))) (by decide) (t := (.array .int)) (t' := .long) (by decide) (by decide)))
    have fpayments_17 := fpayments_15.other W17 (Or.inr (slot_ne (Or.inl (hw _ (List.mem_of_getElem? (i := 13) rfl))) (Or.inl (hw _ (List.mem_of_getElem? (i := 24) rfl))) (by decide) (t := (.array .int)) (t' := .long) (by decide) (by decide)))
    have ffixings_17 := ffixings_15.other W17 (Or.inr (slot_ne (Or.inl (hw _ (List.mem_of_getElem? (i := 15) rfl))) (Or.inl (hw _ (List.mem_of_getElem? (i := 24) rfl))) (by decide) (t := (.array .int)) (t' := .long) (by decide) (by decide)))
    have fdays_17 := fdays_15.other W17 (Or.inr (slot_ne (Or.inl (hw _ (List.mem_of_getElem? (i := 17) rfl))) (Or.inl (hw _ (List.mem_of_getElem? (i := 24) rfl))) (by decide) (t := (.array .int)) (t' := .long) (by decide) (by decide)))
    have fstart_17 := fstart_15.same W17
    have fcount_17 := fcount_15.other W17 (Or.inr (slot_ne (Or.inl (hw _ (List.mem_of_getElem? (i := 26) rfl))) (Or.inl (hw _ (List.mem_of_getElem? (i := 24) rfl))) (by decide) (t := .int) (t' := .long) (by decide) (by decide)))
    have ffloats_17 := ffloats_15.other W17 (Or.inr (slot_ne (Or.inl (hw _ (List.mem_of_getElem? (i := 28) rfl))) (Or.inl (hw _ (List.mem_of_getElem? (i := 24) rfl))) (by decide) (t := .boolean) (t' := .long) (by decide) (by decide)))
    have fE_17 := fE_15.wr W17
    have fZ_17 := Nat.le_trans fZ_15 (Keep.of_wr W17).1
    obtain ⟨T18, h18, X18, e18, W18, st18⟩ := putF X17 hx hZ hown (host := "") (Or.inl (hw _ (List.mem_of_getElem? (i := 25) rfl))) Via.refl e17 fcount_17 fE_17 (Or.inl (hw _ (List.mem_of_getElem? (i := 26) rfl))) (hw _ (List.mem_of_getElem? (i := 1) rfl)) (ty := .int) (by decide) rfl rfl (g := (mkF m 61 #[.val (.ref a1), .val (.long q2), .second, .val (.int p3), .val (.int p4), .val (.int r)] [(.int p3), (.ref a1)])) rfl rfl (hb hby d3_61)
    have N18 := Fr.snoc X18 N17 ga
    have fAends_18 := own_IA_other fAends_17 W18 (own_IA_ne fAends_17 fE_17 (hw _ (List.mem_of_getElem? (i := 1) rfl)))
    have fApayments_18 := own_IA_other fApayments_17 W18 (own_IA_ne fApayments_17 fE_17 (hw _ (List.mem_of_getElem? (i := 1) rfl)))
    have fAfixings_18 := own_IA_other fAfixings_17 W18 (own_IA_ne fAfixings_17 fE_17 (hw _ (List.mem_of_getElem? (i := 1) rfl)))
    have fAdays_18 := own_IA_other fAdays_17 W18 (own_IA_ne fAdays_17 fE_17 (hw _ (List.mem_of_getElem? (i := 1) rfl)))
    have fends_18 := fends_17.other W18 (Or.inr (slot_ne (Or.inl (hw _ (List.mem_of_getElem? (i := 11) rfl))) (Or.inl (hw _ (List.mem_of_getElem? (i := 26) rfl))) (by decide) (t := (.array .int)) (t' := .int) (by decide) (by decide)))
    have fpayments_18 := fpayments_17.other W18 (Or.inr (slot_ne (Or.inl (hw _ (List.mem_of_getElem? (i := 13) rfl))) (Or.inl (hw _ (List.mem_of_getElem? (i := 26) rfl))) (by decide) (t := (.array .int)) (t' := .int) (by decide) (by decide)))
    have ffixings_18 := ffixings_17.other W18 (Or.inr (slot_ne (Or.inl (hw _ (List.mem_of_getElem? (i := 15) rfl))) (Or.inl (hw _ (List.mem_of_getElem? (i := 26) rfl))) (by decide) (t := (.array .int)) (t' := .int) (by decide) (by decide)))
    have fdays_18 := fdays_17.other W18 (Or.inr (slot_ne (Or.inl (hw _ (List.mem_of_getElem? (i := 17) rfl))) (Or.inl (hw _ (List.mem_of_getElem? (i := 26) rfl))) (by decide) (t := (.array .int)) (t' := .int) (by decide) (by decide)))
    have fstart_18 := fstart_17.other W18 (Or.inr (slot_ne (Or.inl (hw _ (List.mem_of_getElem? (i := 24) rfl))) (Or.inl (hw _ (List.mem_of_getElem? (i := 26) rfl))) (by decide) (t := .long) (t' := .int) (by decide) (by decide)))
    have fcount_18 := fcount_17.same W18
    have ffloats_18 := ffloats_17.other W18 (Or.inr (slot_ne (Or.inl (hw _ (List.mem_of_getElem? (i := 28) rfl))) (Or.inl (hw _ (List.mem_of_getElem? (i := 26) rfl))) (by decide) (t := .boolean) (t' := .int) (by decide) (by decide)))
    have fE_18 := fE_17.wr W18
    have fZ_18 := Nat.le_trans fZ_17 (Keep.of_wr W18).1
    obtain ⟨T19, h19, X19, e19, W19, st19⟩ := putFN X18 hx hZ hown (hw _ (List.mem_of_getElem? (i := 27) rfl)) Via.refl e18 ffloats_18 fE_18 (Or.inl (hw _ (List.mem_of_getElem? (i := 28) rfl))) (hw _ (List.mem_of_getElem? (i := 1) rfl)) (ty := .boolean) (v' := (.int (nar .boolean p4))) (by decide) rfl (fits_nar_bool _) (g := (mkF m 67 #[.val (.ref a1), .val (.long q2), .second, .val (.int p3), .val (.int p4), .val (.int r)] [(.int p4), (.ref a1)])) rfl rfl (hb hby d3_67)
    have N19 := Fr.snoc X19 N18 ga
    have fAends_19 := own_IA_other fAends_18 W19 (own_IA_ne fAends_18 fE_18 (hw _ (List.mem_of_getElem? (i := 1) rfl)))
    have fApayments_19 := own_IA_other fApayments_18 W19 (own_IA_ne fApayments_18 fE_18 (hw _ (List.mem_of_getElem? (i := 1) rfl)))
    have fAfixings_19 := own_IA_other fAfixings_18 W19 (own_IA_ne fAfixings_18 fE_18 (hw _ (List.mem_of_getElem? (i := 1) rfl)))
    have fAdays_19 := own_IA_other fAdays_18 W19 (own_IA_ne fAdays_18 fE_18 (hw _ (List.mem_of_getElem? (i := 1) rfl)))
    have fends_19 := fends_18.other W19 (Or.inr (slot_ne (Or.inl (hw _ (List.mem_of_getElem? (i := 11) rfl))) (Or.inl (hw _ (List.mem_of_getElem? (i := 28) rfl))) (by decide) (t := (.array .int)) (t' := .boolean) (by decide) (by decide)))
    have fpayments_19 := fpayments_18.other W19 (Or.inr (slot_ne (Or.inl (hw _ (List.mem_of_getElem? (i := 13) rfl))) (Or.inl (hw _ (List.mem_of_getElem? (i := 28) rfl))) (by decide) (t := (.array .int)) (t' := .boolean) (by decide) (by decide)))
    have ffixings_19 := ffixings_18.other W19 (Or.inr (slot_ne (Or.inl (hw _ (List.mem_of_getElem? (i := 15) rfl))) (Or.inl (hw _ (List.mem_of_getElem? (i := 28) rfl))) (by decide) (t := (.array .int)) (t' := .boolean) (by decide) (by decide)))
    have fdays_19 := fdays_18.other W19 (Or.inr (slot_ne (Or.inl (hw _ (List.mem_of_getElem? (i := 17) rfl))) (Or.inl (hw _ (List.mem_of_getElem? (i := 28) rfl))) (by decide) (t := (.array .int)) (t' := .boolean) (by decide) (by decide)))
    have fstart_19 := fstart_18.other W19 (Or.inr (slot_ne (Or.inl (hw _ (List.mem_of_getElem? (i := 24) rfl))) (Or.inl (hw _ (List.mem_of_getElem? (i := 28) rfl))) (by decide) (t := .long) (t' := .boolean) (by decide) (by decide)))
    have fcount_19 := fcount_18.other W19 (Or.inr (slot_ne (Or.inl (hw _ (List.mem_of_getElem? (i := 26) rfl))) (Or.inl (hw _ (List.mem_of_getElem? (i := 28) rfl))) (by decide) (t := .int) (t' := .boolean) (by decide) (by decide)))
    have ffloats_19 := ffloats_18.same W19
    have fE_19 := fE_18.wr W19
    have fZ_19 := Nat.le_trans fZ_18 (Keep.of_wr W19).1
    obtain ⟨fs, hr, hrun, hended, hW, hsame⟩ := X19.leave (v := none) (fun _ => rfl) (hlocks := BodyLoose.notSynchronized Bd)
    refine ⟨_, _, pre16 _ ?_, hrun, hended, _, _, rfl, ?_, ⟨_, rfl⟩, hW, hsame.mono (by decide) (by decide)⟩
    · show Steps p.tables e below (T15.setTop (mkF m 54 #[.val (.ref a1), .val (.long q2), .second, .val (.int p3), .val (.int p4), .val (.int r)] [])) _
      refine XS.aloadN X15.here hx rfl (hb hby d3_54) rfl rfl ?_
      show Steps p.tables e below (T15.setTop (mkF m 55 #[.val (.ref a1), .val (.long q2), .second, .val (.int p3), .val (.int p4), .val (.int r)] [(.ref a1)])) _
      refine XS.lloadN X15.here hx rfl (hb hby d3_55) rfl ?_
      show Steps p.tables e below (T15.setTop (mkF m 56 #[.val (.ref a1), .val (.long q2), .second, .val (.int p3), .val (.int p4), .val (.int r)] [(.long q2), (.ref a1)])) _
      refine st17 _ ?_
      show Steps p.tables e below (T17.setTop (mkF m 59 #[.val (.ref a1), .val (.long q2), .second, .val (.int p3), .val (.int p4), .val (.int r)] [])) _
      refine XS.aloadN X17.here hx rfl (hb hby d3_59) rfl rfl ?_
      show Steps p.tables e below (T17.setTop (mkF m 60 #[.val (.ref a1), .val (.long q2), .second, .val (.int p3), .val (.int p4), .val (.int r)] [(.ref a1)])) _
      refine XS.iloadN X17.here hx rfl (hb hby d3_60) rfl ?_
      show Steps p.tables e below (T17.setTop (mkF m 61 #[.val (.ref a1), .val (.long q2), .second, .val (.int p3), .val (.int p4), .val (.int r)] [(.int p3), (.ref a1)])) _
      refine st18 _ ?_
      show Steps p.tables e below (T18.setTop (mkF m 64 #[.val (.ref a1), .val (.long q2), .second, .val (.int p3), .val (.int p4), .val (.int r)] [])) _
      refine XS.aloadN X18.here hx rfl (hb hby d3_64) rfl rfl ?_
      show Steps p.tables e below (T18.setTop (mkF m 65 #[.val (.ref a1), .val (.long q2), .second, .val (.int p3), .val (.int p4), .val (.int r)] [(.ref a1)])) _
      refine XS.iload X18.here hx rfl (hb hby d3_65) rfl ?_
      show Steps p.tables e below (T18.setTop (mkF m 67 #[.val (.ref a1), .val (.long q2), .second, .val (.int p3), .val (.int p4), .val (.int r)] [(.int p4), (.ref a1)])) _
      refine st19 _ ?_
      show Steps p.tables e below (T19.setTop (mkF m 70 #[.val (.ref a1), .val (.long q2), .second, .val (.int p3), .val (.int p4), .val (.int r)] [])) _
      exact X19.returnOut hx Bd.returns (hb hby d3_70) hr
    · show Qb Z a1 q2 p3 p4 h0 n0 _ T19.heap _
      rw [e19]
      exact ⟨rfl, N19, fZ_19, _, _, r2, ⟨fE_19, fstart_19, fcount_19, ffloats_19, b5, b8, b11, b14, ⟨fends_19, fpayments_19, ffixings_19, fdays_19⟩, ⟨ge_b5, ge_b8, ge_b11, ge_b14⟩, ⟨ne_b8, ne_b11, ne_b14⟩, fAends_19, own_IA_ix fApayments_19, own_IA_ix fAfixings_19, own_IA_ix fAdays_19⟩⟩
  · obtain ⟨T20, h20, X20, e20, W20, st20⟩ := putF X1 hx hZ hown (host := "") (Or.inl (hw _ (List.mem_of_getElem? (i := 23) rfl))) Via.refl e1 o_start oE (Or.inl (hw _ (List.mem_of_getElem? (i := 24) rfl))) (hw _ (List.mem_of_getElem? (i := 1) rfl)) (ty := .long) (by decide) rfl rfl (g := (mkF m 56 #[.val (.ref a1), .val (.long q2), .second, .val (.int p3), .val (.int p4), .unset] [(.long q2), (.ref a1)])) rfl rfl (hb hby d3_56)
    have N20 := Fr.snoc X20 N0 ga
    have fAends_20 := own_IA_other A1 W20 (own_IA_ne A1 oE (hw _ (List.mem_of_getElem? (i := 1) rfl)))
    have fApayments_20 := own_IX_wr A2 W20
    have fAfixings_20 := own_IX_wr A3 W20
    have fAdays_20 := own_IX_wr A4 W20
    have fends_20 := o_ends.other W20 (Or.inr (slot_ne (Or.inl (hw _ (List.mem_of_getElem? (i := 11) rfl))) (Or.inl (hw _ (List.mem_of_getElem? (i := 24) rfl))) (by decide) (t := (.array .int)) (t' := .long) (by decide) (by decide)))
    have fpayments_20 := o_payments.other W20 (Or.inr (slot_ne (Or.inl (hw _ (List.mem_of_getElem? (i := 13) rfl))) (Or.inl (hw _ (List.mem_of_getElem? (i := 24) rfl))) (by decide) (t := (.array .int)) (t' := .long) (by decide) (by decide)))
    have ffixings_20 := o_fixings.other W20 (Or.inr (slot_ne (Or.inl (hw _ (List.mem_of_getElem? (i := 15) rfl))) (Or.inl (hw _ (List.mem_of_getElem? (i := 24) rfl))) (by decide) (t := (.array .int)) (t' := .long) (by decide) (by decide)))
    have fdays_20 := o_days.other W20 (Or.inr (slot_ne (Or.inl (hw _ (List.mem_of_getElem? (i := 17) rfl))) (Or.inl (hw _ (List.mem_of_getElem? (i := 24) rfl))) (by decide) (t := (.array .int)) (t' := .long) (by decide) (by decide)))
    have fstart_20 := o_start.same W20
    have fcount_20 := o_count.other W20 (Or.inr (slot_ne (Or.inl (hw _ (List.mem_of_getElem? (i := 26) rfl))) (Or.inl (hw _ (List.mem_of_getElem? (i := 24) rfl))) (by decide) (t := .int) (t' := .long) (by decide) (by decide)))
    have ffloats_20 := o_floats.other W20 (Or.inr (slot_ne (Or.inl (hw _ (List.mem_of_getElem? (i := 28) rfl))) (Or.inl (hw _ (List.mem_of_getElem? (i := 24) rfl))) (by decide) (t := .boolean) (t' := .long) (by decide) (by decide)))
    have fE_20 := oE.wr W20
    have fZ_20 := Nat.le_trans Z0 (Keep.of_wr W20).1
    obtain ⟨T21, h21, X21, e21, W21, st21⟩ := putF X20 hx hZ hown (host := "") (Or.inl (hw _ (List.mem_of_getElem? (i := 25) rfl))) Via.refl e20 fcount_20 fE_20 (Or.inl (hw _ (List.mem_of_getElem? (i := 26) rfl))) (hw _ (List.mem_of_getElem? (i := 1) rfl)) (ty := .int) (by decide) rfl rfl (g := (mkF m 61 #[.val (.ref a1), .val (.long q2), .second, .val (.int p3), .val (.int p4), .unset] [(.int p3), (.ref a1)])) rfl rfl (hb hby d3_61)
    have N21 := Fr.snoc X21 N20 ga
    have fAends_21 := own_IA_other fAends_20 W21 (own_IA_ne fAends_20 fE_20 (hw _ (List.mem_of_getElem? (i := 1) rfl)))
    have fApayments_21 := own_IX_wr fApayments_20 W21
    have fAfixings_21 := own_IX_wr fAfixings_20 W21
    have fAdays_21 := own_IX_wr fAdays_20 W21
    have fends_21 := fends_20.other W21 (Or.inr (slot_ne (Or.inl (hw _ (List.mem_of_getElem? (i := 11) rfl))) (Or.inl (hw _ (List.mem_of_getElem? (i := 26) rfl))) (by decide) (t := (.array .int)) (t' := .int) (by decide) (by decide)))
    have fpayments_21 := fpayments_20.other W21 (Or.inr (slot_ne (Or.inl (hw _ (List.mem_of_getElem? (i := 13) rfl))) (Or.inl (hw _ (List.mem_of_getElem? (i := 26) rfl))) (by decide) (t := (.array .int)) (t' := .int) (by decide) (by decide)))
    have ffixings_21 := ffixings_20.other W21 (Or.inr (slot_ne (Or.inl (hw _ (List.mem_of_getElem? (i := 15) rfl))) (Or.inl (hw _ (List.mem_of_getElem? (i := 26) rfl))) (by decide) (t := (.array .int)) (t' := .int) (by decide) (by decide)))
    have fdays_21 := fdays_20.other W21 (Or.inr (slot_ne (Or.inl (hw _ (List.mem_of_getElem? (i := 17) rfl))) (Or.inl (hw _ (List.mem_of_getElem? (i := 26) rfl))) (by decide) (t := (.array .int)) (t' := .int) (by decide) (by decide)))
    have fstart_21 := fstart_20.other W21 (Or.inr (slot_ne (Or.inl (hw _ (List.mem_of_getElem? (i := 24) rfl))) (Or.inl (hw _ (List.mem_of_getElem? (i := 26) rfl))) (by decide) (t := .long) (t' := .int) (by decide) (by decide)))
    have fcount_21 := fcount_20.same W21
    have ffloats_21 := ffloats_20.other W21 (Or.inr (slot_ne (Or.inl (hw _ (List.mem_of_getElem? (i := 28) rfl))) (Or.inl (hw _ (List.mem_of_getElem? (i := 26) rfl))) (by decide) (t := .boolean) (t' := .int) (by decide) (by decide)))
    have fE_21 := fE_20.wr W21
    have fZ_21 := Nat.le_trans fZ_20 (Keep.of_wr W21).1
    obtain ⟨T22, h22, X22, e22, W22, st22⟩ := putFN X21 hx hZ hown (hw _ (List.mem_of_getElem? (i := 27) rfl)) Via.refl e21 ffloats_21 fE_21 (Or.inl (hw _ (List.mem_of_getElem? (i := 28) rfl))) (hw _ (List.mem_of_getElem? (i := 1) rfl)) (ty := .boolean) (v' := (.int (nar .boolean p4))) (by decide) rfl (fits_nar_bool _) (g := (mkF m 67 #[.val (.ref a1), .val (.long q2), .second, .val (.int p3), .val (.int p4), .unset] [(.int p4), (.ref a1)])) rfl rfl (hb hby d3_67)
    have N22 := Fr.snoc X22 N21 ga
    have fAends_22 := own_IA_other fAends_21 W22 (own_IA_ne fAends_21 fE_21 (hw _ (List.mem_of_getElem? (i := 1) rfl)))
    have fApayments_22 := own_IX_wr fApayments_21 W22
    have fAfixings_22 := own_IX_wr fAfixings_21 W22
    have fAdays_22 := own_IX_wr fAdays_21 W22
    have fends_22 := fends_21.other W22 (Or.inr (slot_ne (Or.inl (hw _ (List.mem_of_getElem? (i := 11) rfl))) (Or.inl (hw _ (List.mem_of_getElem? (i := 28) rfl))) (by decide) (t := (.array .int)) (t' := .boolean) (by decide) (by decide)))
    have fpayments_22 := fpayments_21.other W22 (Or.inr (slot_ne (Or.inl (hw _ (List.mem_of_getElem? (i := 13) rfl))) (Or.inl (hw _ (List.mem_of_getElem? (i := 28) rfl))) (by decide) (t := (.array .int)) (t' := .boolean) (by decide) (by decide)))
    have ffixings_22 := ffixings_21.other W22 (Or.inr (slot_ne (Or.inl (hw _ (List.mem_of_getElem? (i := 15) rfl))) (Or.inl (hw _ (List.mem_of_getElem? (i := 28) rfl))) (by decide) (t := (.array .int)) (t' := .boolean) (by decide) (by decide)))
    have fdays_22 := fdays_21.other W22 (Or.inr (slot_ne (Or.inl (hw _ (List.mem_of_getElem? (i := 17) rfl))) (Or.inl (hw _ (List.mem_of_getElem? (i := 28) rfl))) (by decide) (t := (.array .int)) (t' := .boolean) (by decide) (by decide)))
    have fstart_22 := fstart_21.other W22 (Or.inr (slot_ne (Or.inl (hw _ (List.mem_of_getElem? (i := 24) rfl))) (Or.inl (hw _ (List.mem_of_getElem? (i := 28) rfl))) (by decide) (t := .long) (t' := .boolean) (by decide) (by decide)))
    have fcount_22 := fcount_21.other W22 (Or.inr (slot_ne (Or.inl (hw _ (List.mem_of_getElem? (i := 26) rfl))) (Or.inl (hw _ (List.mem_of_getElem? (i := 28) rfl))) (by decide) (t := .int) (t' := .boolean) (by decide) (by decide)))
    have ffloats_22 := ffloats_21.same W22
    have fE_22 := fE_21.wr W22
    have fZ_22 := Nat.le_trans fZ_21 (Keep.of_wr W22).1
    obtain ⟨fs, hr, hrun, hended, hW, hsame⟩ := X22.leave (v := none) (fun _ => rfl) (hlocks := BodyLoose.notSynchronized Bd)
    refine ⟨_, _, pre2 _ ?_, hrun, hended, _, _, rfl, ?_, ⟨_, rfl⟩, hW, hsame.mono (by decide) (by decide)⟩
    · show Steps p.tables e below (T1.setTop (mkF m 6 #[.val (.ref a1), .val (.long q2), .second, .val (.int p3), .val (.int p4), .unset] [(.int p3), (.int (64 : Int32))])) _
      refine XS.icmpYes X1.here hx rfl (pc0 := 6) (pc' := 54) rfl (hb hby d3_6) rfl (flt c6).2.1 (by decide) (by decide) ?_
      show Steps p.tables e below (T1.setTop (mkF m 54 #[.val (.ref a1), .val (.long q2), .second, .val (.int p3), .val (.int p4), .unset] [])) _
      refine XS.aloadN X1.here hx rfl (hb hby d3_54) rfl rfl ?_
      show Steps p.tables e below (T1.setTop (mkF m 55 #[.val (.ref a1), .val (.long q2), .second, .val (.int p3), .val (.int p4), .unset] [(.ref a1)])) _
      refine XS.lloadN X1.here hx rfl (hb hby d3_55) rfl ?_
      show Steps p.tables e below (T1.setTop (mkF m 56 #[.val (.ref a1), .val (.long q2), .second, .val (.int p3), .val (.int p4), .unset] [(.long q2), (.ref a1)])) _
      refine st20 _ ?_
      show Steps p.tables e below (T20.setTop (mkF m 59 #[.val (.ref a1), .val (.long q2), .second, .val (.int p3), .val (.int p4), .unset] [])) _
      refine XS.aloadN X20.here hx rfl (hb hby d3_59) rfl rfl ?_
      show Steps p.tables e below (T20.setTop (mkF m 60 #[.val (.ref a1), .val (.long q2), .second, .val (.int p3), .val (.int p4), .unset] [(.ref a1)])) _
      refine XS.iloadN X20.here hx rfl (hb hby d3_60) rfl ?_
      show Steps p.tables e below (T20.setTop (mkF m 61 #[.val (.ref a1), .val (.long q2), .second, .val (.int p3), .val (.int p4), .unset] [(.int p3), (.ref a1)])) _
      refine st21 _ ?_
      show Steps p.tables e below (T21.setTop (mkF m 64 #[.val (.ref a1), .val (.long q2), .second, .val (.int p3), .val (.int p4), .unset] [])) _
      refine XS.aloadN X21.here hx rfl (hb hby d3_64) rfl rfl ?_
      show Steps p.tables e below (T21.setTop (mkF m 65 #[.val (.ref a1), .val (.long q2), .second, .val (.int p3), .val (.int p4), .unset] [(.ref a1)])) _
      refine XS.iload X21.here hx rfl (hb hby d3_65) rfl ?_
      show Steps p.tables e below (T21.setTop (mkF m 67 #[.val (.ref a1), .val (.long q2), .second, .val (.int p3), .val (.int p4), .unset] [(.int p4), (.ref a1)])) _
      refine st22 _ ?_
      show Steps p.tables e below (T22.setTop (mkF m 70 #[.val (.ref a1), .val (.long q2), .second, .val (.int p3), .val (.int p4), .unset] [])) _
      exact X22.returnOut hx Bd.returns (hb hby d3_70) hr
    · show Qb Z a1 q2 p3 p4 h0 n0 _ T22.heap _
      rw [e22]
      exact ⟨rfl, N22, fZ_22, _, _, own_nogrow c6, ⟨fE_22, fstart_22, fcount_22, ffloats_22, t1, t2, t3, t4, ⟨fends_22, fpayments_22, ffixings_22, fdays_22⟩, ⟨ge1, ge2, ge3, ge4⟩, ⟨ne2, ne3, ne4⟩, fAends_22, fApayments_22, fAfixings_22, fAdays_22⟩⟩
def Qt (Z : State) (a1 : Addr) (p2 p3 : Int32) (N : Nat) (f : Nat → Int32) (st : Int64) (cn fl : Int32) (h0 : Heap) (n0 : Nat) (v : Option Value) (h : Heap) (L : List Loc) : Prop := v = none ∧ Fr n0 L ∧ n0 ≤ h.size ∧ own_PD Z h n0 a1 N (own_upd f p2.toNatClampNeg p3) st cn fl
theorem d4_0 : decode prog_36_method_3_code 0 = .ok (.aload_n 0, 1) := by decide +kernel
theorem d4_1 : decode prog_36_method_3_code 1 = .ok (.getfield 9, 3) := by decide +kernel
theorem d4_4 : decode prog_36_method_3_code 4 = .ok (.iload_n 1, 1) := by decide +kernel
theorem d4_5 : decode prog_36_method_3_code 5 = .ok (.iload_n 2, 1) := by decide +kernel
theorem d4_6 : decode prog_36_method_3_code 6 = .ok (.iastore, 1) := by decide +kernel
theorem d4_7 : decode prog_36_method_3_code 7 = .ok (.aload_n 0, 1) := by decide +kernel
theorem d4_8 : decode prog_36_method_3_code 8 = .ok (.getfield 13, 3) := by decide +kernel
theorem d4_11 : decode prog_36_method_3_code 11 = .ok (.iload_n 1, 1) := by decide +kernel
theorem d4_12 : decode prog_36_method_3_code 12 = .ok (.iload_n 3, 1) := by decide +kernel
theorem d4_13 : decode prog_36_method_3_code 13 = .ok (.iastore, 1) := by decide +kernel
theorem d4_14 : decode prog_36_method_3_code 14 = .ok (.aload_n 0, 1) := by decide +kernel
theorem d4_15 : decode prog_36_method_3_code 15 = .ok (.getfield 16, 3) := by decide +kernel
theorem d4_18 : decode prog_36_method_3_code 18 = .ok (.iload_n 1, 1) := by decide +kernel
theorem d4_19 : decode prog_36_method_3_code 19 = .ok (.iload 4, 2) := by decide +kernel
theorem d4_21 : decode prog_36_method_3_code 21 = .ok (.iastore, 1) := by decide +kernel
theorem d4_22 : decode prog_36_method_3_code 22 = .ok (.aload_n 0, 1) := by decide +kernel
theorem d4_23 : decode prog_36_method_3_code 23 = .ok (.getfield 19, 3) := by decide +kernel
theorem d4_26 : decode prog_36_method_3_code 26 = .ok (.iload_n 1, 1) := by decide +kernel
theorem d4_27 : decode prog_36_method_3_code 27 = .ok (.iload 5, 2) := by decide +kernel
theorem d4_29 : decode prog_36_method_3_code 29 = .ok (.iastore, 1) := by decide +kernel
theorem d4_30 : decode prog_36_method_3_code 30 = .ok (.return_, 1) := by decide +kernel
theorem ef_4 (m : MethodId) (a1 : Addr) (p2 : Int32) (p3 : Int32) (p4 : Int32) (p5 : Int32) (p6 : Int32) : entryFrame m #[(.ref a1), (.int p2), (.int p3), (.int p4), (.int p5), (.int p6)] 6 = mkF m 0 #[.val (.ref a1), .val (.int p2), .val (.int p3), .val (.int p4), .val (.int p5), .val (.int p6)] [] := by first | (simp [entryFrame, mkF, argsToLocals, Value.category]; done) | rfl
set_option maxRecDepth 65536 in
set_option maxHeartbeats 40000000 in
theorem rmT (l : Launch) (Z : State) (a0 : Array Value) (hw : ∀ d ∈ tables_1, d.before a0 Z = true) (ws : List Jvm.Cond) (a1 : Addr) (p2 : Int32) (p3 : Int32) (p4 : Int32) (p5 : Int32) (p6 : Int32) (N : Nat) (f : Nat → Int32) (st : Int64) (cn fl : Int32) (h0 : Heap) (n0 : Nat) (Z0 : n0 ≤ h0.size) (P : own_PD Z h0 n0 a1 N f st cn fl) (hi : 0 ≤ p2.toInt ∧ p2.toInt < N) :
    MetFree l (⟨"com/example/vilkarsbok/vilkarsbok/PeriodDays", "set", "(IIIII)V"⟩ : MethodName) (head1 (Jvm.Cond.code (⟨"com/example/vilkarsbok/vilkarsbok/PeriodDays", "set", "(IIIII)V"⟩ : MethodName) prog_36_method_3_code 6 none :: ws) ({ frames := 0, cells := 0, slots := 0, locals := 0 } : Room)) (fun a U => a = #[(.ref a1), (.int p2), (.int p3), (.int p4), (.int p5), (.int p6)] ∧ Z.Warmed39 U.vm ∧ U.heap = h0) (fun _ _ _ _ _ => True) (fun _ U o U' => ∃ v L, o = .returned v ∧ Qt Z a1 p2 p3 N f st cn fl h0 n0 v U'.heap L ∧ FrameEnd U o U' L ({ frames := 0, cells := 0, slots := 0, locals := 0 } : Room).cells ({ frames := 0, cells := 0, slots := 0, locals := 0 } : Room).slots) := by
  refine MetFree.of_bodySF (plainFor_of_name pn_0) hisR ?_
  intro p e s m args below meth c s₁ Bd hml0 hP hK
  obtain ⟨rfl, hZ, hh⟩ := hP
  have hx := Bd.exec
  have hby := Bd.bytes
  have hml : c.maxLocals = 6 := hml0
  have hown : s.vm.findClass "com/example/vilkarsbok/vilkarsbok/PeriodDays" = some m.cls := findClass_of_methodNamed Bd.named
  have hnm := (name_of_methodNamed Bd.named Bd.method).1
  have X0 : Stand p l e ({ frames := 0, cells := 0, slots := 0, locals := 0 } : Room) s m #[(.ref a1), (.int p2), (.int p3), (.int p4), (.int p5), (.int p6)] below meth c s₁ [] 0 0 := Stand.of_body Bd
  have e0 : s₁.heap = h0 := by rw [← hh, Bd.state]; rfl
  have N0 := Fr.nil n0
  have pre0 : ∀ t, Steps p.tables e below (s₁.setTop (mkF m 0 #[.val (.ref a1), .val (.int p2), .val (.int p3), .val (.int p4), .val (.int p5), .val (.int p6)] [])) t → Steps p.tables e below (s₁.setTop (entryFrame m #[(.ref a1), (.int p2), (.int p3), (.int p4), (.int p5), (.int p6)] 6)) t := fun t k => castTop (ef_4 m a1 p2 p3 p4 p5 p6) k
  obtain ⟨oE, o_start, o_count, o_floats, t1, t2, t3, t4, ⟨o_ends, o_payments, o_fixings, o_days⟩, ⟨ge1, ge2, ge3, ge4⟩, ⟨ne2, ne3, ne4⟩, A1, A2, A3, A4⟩ := P
  obtain ⟨T1, X1, e1, st1⟩ := getF X0 hx hZ hown (host := "") (Or.inl (hw _ (List.mem_of_getElem? (i := 10) rfl))) Via.refl e0 o_ends (g := (mkF m 1 #[.val (.ref a1), .val (.int p2), .val (.int p3), .val (.int p4), .val (.int p5), .val (.int p6)] [(.ref a1)])) rfl rfl (hb hby d4_1)
  have cA1 := A1
  obtain ⟨d1, Ad1, Sd1, Hd1⟩ := cA1
  obtain ⟨T2, h2, X2, e2, W2, st2⟩ := stI X1 hx hZ e1 Ad1 (j := p2) (own_in hi Sd1) (g := (mkF m 6 #[.val (.ref a1), .val (.int p2), .val (.int p3), .val (.int p4), .val (.int p5), .val (.int p6)] [(.int p3), (.int p2), (.ref t1)])) rfl rfl (hb hby d4_6)
  have N2 := Fr.snoc X2 N0 ge1
  have fends_2 := o_ends.other W2 (Or.inl (Ne.symm (own_IA_ne A1 oE (hw _ (List.mem_of_getElem? (i := 1) rfl)))))
  have fpayments_2 := o_payments.other W2 (Or.inl (Ne.symm (own_IA_ne A1 oE (hw _ (List.mem_of_getElem? (i := 1) rfl)))))
  have ffixings_2 := o_fixings.other W2 (Or.inl (Ne.symm (own_IA_ne A1 oE (hw _ (List.mem_of_getElem? (i := 1) rfl)))))
  have fdays_2 := o_days.other W2 (Or.inl (Ne.symm (own_IA_ne A1 oE (hw _ (List.mem_of_getElem? (i := 1) rfl)))))
  have fstart_2 := o_start.other W2 (Or.inl (Ne.symm (own_IA_ne A1 oE (hw _ (List.mem_of_getElem? (i := 1) rfl)))))
  have fcount_2 := o_count.other W2 (Or.inl (Ne.symm (own_IA_ne A1 oE (hw _ (List.mem_of_getElem? (i := 1) rfl)))))
  have ffloats_2 := o_floats.other W2 (Or.inl (Ne.symm (own_IA_ne A1 oE (hw _ (List.mem_of_getElem? (i := 1) rfl)))))
  have fAends_2 := own_IA_upd Ad1 Sd1 Hd1 W2
  have fApayments_2 := own_IX_wr A2 W2
  have fAfixings_2 := own_IX_wr A3 W2
  have fAdays_2 := own_IX_wr A4 W2
  have fE_2 := oE.wr W2
  have fZ_2 := Nat.le_trans Z0 (Keep.of_wr W2).1
  have pre3 : ∀ t, Steps p.tables e below (T2.setTop (mkF m 7 #[.val (.ref a1), .val (.int p2), .val (.int p3), .val (.int p4), .val (.int p5), .val (.int p6)] [])) t → Steps p.tables e below (s₁.setTop (entryFrame m #[(.ref a1), (.int p2), (.int p3), (.int p4), (.int p5), (.int p6)] 6)) t := by
    intro t k
    refine pre0 t ?_
    show Steps p.tables e below (s₁.setTop (mkF m 0 #[.val (.ref a1), .val (.int p2), .val (.int p3), .val (.int p4), .val (.int p5), .val (.int p6)] [])) _
    refine XS.aloadN X0.here hx rfl (hb hby d4_0) rfl rfl ?_
    show Steps p.tables e below (s₁.setTop (mkF m 1 #[.val (.ref a1), .val (.int p2), .val (.int p3), .val (.int p4), .val (.int p5), .val (.int p6)] [(.ref a1)])) _
    refine st1 _ ?_
    show Steps p.tables e below (T1.setTop (mkF m 4 #[.val (.ref a1), .val (.int p2), .val (.int p3), .val (.int p4), .val (.int p5), .val (.int p6)] [(.ref t1)])) _
    refine XS.iloadN X1.here hx rfl (hb hby d4_4) rfl ?_
    show Steps p.tables e below (T1.setTop (mkF m 5 #[.val (.ref a1), .val (.int p2), .val (.int p3), .val (.int p4), .val (.int p5), .val (.int p6)] [(.int p2), (.ref t1)])) _
    refine XS.iloadN X1.here hx rfl (hb hby d4_5) rfl ?_
    show Steps p.tables e below (T1.setTop (mkF m 6 #[.val (.ref a1), .val (.int p2), .val (.int p3), .val (.int p4), .val (.int p5), .val (.int p6)] [(.int p3), (.int p2), (.ref t1)])) _
    refine st2 _ ?_
    exact k
  obtain ⟨T4, X4, e4, st4⟩ := getF X2 hx hZ hown (host := "") (Or.inl (hw _ (List.mem_of_getElem? (i := 12) rfl))) Via.refl e2 fpayments_2 (g := (mkF m 8 #[.val (.ref a1), .val (.int p2), .val (.int p3), .val (.int p4), .val (.int p5), .val (.int p6)] [(.ref a1)])) rfl rfl (hb hby d4_8)
  have cA2 := fApayments_2
  obtain ⟨d2, Ad2, Sd2⟩ := cA2
  obtain ⟨T5, h5, X5, e5, W5, st5⟩ := stI X4 hx hZ e4 Ad2 (j := p2) (own_in hi Sd2) (g := (mkF m 13 #[.val (.ref a1), .val (.int p2), .val (.int p3), .val (.int p4), .val (.int p5), .val (.int p6)] [(.int p4), (.int p2), (.ref t2)])) rfl rfl (hb hby d4_13)
  have N5 := Fr.snoc X5 N2 ge2
  have fends_5 := fends_2.other W5 (Or.inl (Ne.symm (own_IX_ne fApayments_2 fE_2 (hw _ (List.mem_of_getElem? (i := 1) rfl)))))
  have fpayments_5 := fpayments_2.other W5 (Or.inl (Ne.symm (own_IX_ne fApayments_2 fE_2 (hw _ (List.mem_of_getElem? (i := 1) rfl)))))
  have ffixings_5 := ffixings_2.other W5 (Or.inl (Ne.symm (own_IX_ne fApayments_2 fE_2 (hw _ (List.mem_of_getElem? (i := 1) rfl)))))
  have fdays_5 := fdays_2.other W5 (Or.inl (Ne.symm (own_IX_ne fApayments_2 fE_2 (hw _ (List.mem_of_getElem? (i := 1) rfl)))))
  have fstart_5 := fstart_2.other W5 (Or.inl (Ne.symm (own_IX_ne fApayments_2 fE_2 (hw _ (List.mem_of_getElem? (i := 1) rfl)))))
  have fcount_5 := fcount_2.other W5 (Or.inl (Ne.symm (own_IX_ne fApayments_2 fE_2 (hw _ (List.mem_of_getElem? (i := 1) rfl)))))
  have ffloats_5 := ffloats_2.other W5 (Or.inl (Ne.symm (own_IX_ne fApayments_2 fE_2 (hw _ (List.mem_of_getElem? (i := 1) rfl)))))
  have fAends_5 := own_IA_other fAends_2 W5 ne2
  have fApayments_5 := own_IX_wr fApayments_2 W5
  have fAfixings_5 := own_IX_wr fAfixings_2 W5
  have fAdays_5 := own_IX_wr fAdays_2 W5
  have fE_5 := fE_2.wr W5
  have fZ_5 := Nat.le_trans fZ_2 (Keep.of_wr W5).1
  have pre6 : ∀ t, Steps p.tables e below (T5.setTop (mkF m 14 #[.val (.ref a1), .val (.int p2), .val (.int p3), .val (.int p4), .val (.int p5), .val (.int p6)] [])) t → Steps p.tables e below (s₁.setTop (entryFrame m #[(.ref a1), (.int p2), (.int p3), (.int p4), (.int p5), (.int p6)] 6)) t := by
    intro t k
    refine pre3 t ?_
    show Steps p.tables e below (T2.setTop (mkF m 7 #[.val (.ref a1), .val (.int p2), .val (.int p3), .val (.int p4), .val (.int p5), .val (.int p6)] [])) _
    refine XS.aloadN X2.here hx rfl (hb hby d4_7) rfl rfl ?_
    show Steps p.tables e below (T2.setTop (mkF m 8 #[.val (.ref a1), .val (.int p2), .val (.int p3), .val (.int p4), .val (.int p5), .val (.int p6)] [(.ref a1)])) _
    refine st4 _ ?_
    show Steps p.tables e below (T4.setTop (mkF m 11 #[.val (.ref a1), .val (.int p2), .val (.int p3), .val (.int p4), .val (.int p5), .val (.int p6)] [(.ref t2)])) _
    refine XS.iloadN X4.here hx rfl (hb hby d4_11) rfl ?_
    show Steps p.tables e below (T4.setTop (mkF m 12 #[.val (.ref a1), .val (.int p2), .val (.int p3), .val (.int p4), .val (.int p5), .val (.int p6)] [(.int p2), (.ref t2)])) _
    refine XS.iloadN X4.here hx rfl (hb hby d4_12) rfl ?_
    show Steps p.tables e below (T4.setTop (mkF m 13 #[.val (.ref a1), .val (.int p2), .val (.int p3), .val (.int p4), .val (.int p5), .val (.int p6)] [(.int p4), (.int p2), (.ref t2)])) _
    refine st5 _ ?_
    exact k
  obtain ⟨T7, X7, e7, st7⟩ := getF X5 hx hZ hown (host := "") (Or.inl (hw _ (List.mem_of_getElem? (i := 14) rfl))) Via.refl e5 ffixings_5 (g := (mkF m 15 #[.val (.ref a1), .val (.int p2), .val (.int p3), .val (.int p4), .val (.int p5), .val (.int p6)] [(.ref a1)])) rfl rfl (hb hby d4_15)
  have cA3 := fAfixings_5
  obtain ⟨d3, Ad3, Sd3⟩ := cA3
  obtain ⟨T8, h8, X8, e8, W8, st8⟩ := stI X7 hx hZ e7 Ad3 (j := p2) (own_in hi Sd3) (g := (mkF m 21 #[.val (.ref a1), .val (.int p2), .val (.int p3), .val (.int p4), .val (.int p5), .val (.int p6)] [(.int p5), (.int p2), (.ref t3)])) rfl rfl (hb hby d4_21)
  have N8 := Fr.snoc X8 N5 ge3
  have fends_8 := fends_5.other W8 (Or.inl (Ne.symm (own_IX_ne fAfixings_5 fE_5 (hw _ (List.mem_of_getElem? (i := 1) rfl)))))
  have fpayments_8 := fpayments_5.other W8 (Or.inl (Ne.symm (own_IX_ne fAfixings_5 fE_5 (hw _ (List.mem_of_getElem? (i := 1) rfl)))))
  have ffixings_8 := ffixings_5.other W8 (Or.inl (Ne.symm (own_IX_ne fAfixings_5 fE_5 (hw _ (List.mem_of_getElem? (i := 1) rfl)))))
  have fdays_8 := fdays_5.other W8 (Or.inl (Ne.symm (own_IX_ne fAfixings_5 fE_5 (hw _ (List.mem_of_getElem? (i := 1) rfl)))))
  have fstart_8 := fstart_5.other W8 (Or.inl (Ne.symm (own_IX_ne fAfixings_5 fE_5 (hw _ (List.mem_of_getElem? (i := 1) rfl)))))
  have fcount_8 := fcount_5.other W8 (Or.inl (Ne.symm (own_IX_ne fAfixings_5 fE_5 (hw _ (List.mem_of_getElem? (i := 1) rfl)))))
  have ffloats_8 := ffloats_5.other W8 (Or.inl (Ne.symm (own_IX_ne fAfixings_5 fE_5 (hw _ (List.mem_of_getElem? (i := 1) rfl)))))
  have fAends_8 := own_IA_other fAends_5 W8 ne3
  have fApayments_8 := own_IX_wr fApayments_5 W8
  have fAfixings_8 := own_IX_wr fAfixings_5 W8
  have fAdays_8 := own_IX_wr fAdays_5 W8
  have fE_8 := fE_5.wr W8
  have fZ_8 := Nat.le_trans fZ_5 (Keep.of_wr W8).1
  have pre9 : ∀ t, Steps p.tables e below (T8.setTop (mkF m 22 #[.val (.ref a1), .val (.int p2), .val (.int p3), .val (.int p4), .val (.int p5), .val (.int p6)] [])) t → Steps p.tables e below (s₁.setTop (entryFrame m #[(.ref a1), (.int p2), (.int p3), (.int p4), (.int p5), (.int p6)] 6)) t := by
    intro t k
    refine pre6 t ?_
    show Steps p.tables e below (T5.setTop (mkF m 14 #[.val (.ref a1), .val (.int p2), .val (.int p3), .val (.int p4), .val (.int p5), .val (.int p6)] [])) _
    refine XS.aloadN X5.here hx rfl (hb hby d4_14) rfl rfl ?_
    show Steps p.tables e below (T5.setTop (mkF m 15 #[.val (.ref a1), .val (.int p2), .val (.int p3), .val (.int p4), .val (.int p5), .val (.int p6)] [(.ref a1)])) _
    refine st7 _ ?_
    show Steps p.tables e below (T7.setTop (mkF m 18 #[.val (.ref a1), .val (.int p2), .val (.int p3), .val (.int p4), .val (.int p5), .val (.int p6)] [(.ref t3)])) _
    refine XS.iloadN X7.here hx rfl (hb hby d4_18) rfl ?_
    show Steps p.tables e below (T7.setTop (mkF m 19 #[.val (.ref a1), .val (.int p2), .val (.int p3), .val (.int p4), .val (.int p5), .val (.int p6)] [(.int p2), (.ref t3)])) _
    refine XS.iload X7.here hx rfl (hb hby d4_19) rfl ?_
    show Steps p.tables e below (T7.setTop (mkF m 21 #[.val (.ref a1), .val (.int p2), .val (.int p3), .val (.int p4), .val (.int p5), .val (.int p6)] [(.int p5), (.int p2), (.ref t3)])) _
    refine st8 _ ?_
    exact k
  obtain ⟨T10, X10, e10, st10⟩ := getF X8 hx hZ hown (host := "") (Or.inl (hw _ (List.mem_of_getElem? (i := 16) rfl))) Via.refl e8 fdays_8 (g := (mkF m 23 #[.val (.ref a1), .val (.int p2), .val (.int p3), .val (.int p4), .val (.int p5), .val (.int p6)] [(.ref a1)])) rfl rfl (hb hby d4_23)
  have cA4 := fAdays_8
  obtain ⟨d4, Ad4, Sd4⟩ := cA4
  obtain ⟨T11, h11, X11, e11, W11, st11⟩ := stI X10 hx hZ e10 Ad4 (j := p2) (own_in hi Sd4) (g := (mkF m 29 #[.val (.ref a1), .val (.int p2), .val (.int p3), .val (.int p4), .val (.int p5), .val (.int p6)] [(.int p6), (.int p2), (.ref t4)])) rfl rfl (hb hby d4_29)
  have N11 := Fr.snoc X11 N8 ge4
  have fends_11 := fends_8.other W11 (Or.inl (Ne.symm (own_IX_ne fAdays_8 fE_8 (hw _ (List.mem_of_getElem? (i := 1) rfl)))))
  have fpayments_11 := fpayments_8.other W11 (Or.inl (Ne.symm (own_IX_ne fAdays_8 fE_8 (hw _ (List.mem_of_getElem? (i := 1) rfl)))))
  have ffixings_11 := ffixings_8.other W11 (Or.inl (Ne.symm (own_IX_ne fAdays_8 fE_8 (hw _ (List.mem_of_getElem? (i := 1) rfl)))))
  have fdays_11 := fdays_8.other W11 (Or.inl (Ne.symm (own_IX_ne fAdays_8 fE_8 (hw _ (List.mem_of_getElem? (i := 1) rfl)))))
  have fstart_11 := fstart_8.other W11 (Or.inl (Ne.symm (own_IX_ne fAdays_8 fE_8 (hw _ (List.mem_of_getElem? (i := 1) rfl)))))
  have fcount_11 := fcount_8.other W11 (Or.inl (Ne.symm (own_IX_ne fAdays_8 fE_8 (hw _ (List.mem_of_getElem? (i := 1) rfl)))))
  have ffloats_11 := ffloats_8.other W11 (Or.inl (Ne.symm (own_IX_ne fAdays_8 fE_8 (hw _ (List.mem_of_getElem? (i := 1) rfl)))))
  have fAends_11 := own_IA_other fAends_8 W11 ne4
  have fApayments_11 := own_IX_wr fApayments_8 W11
  have fAfixings_11 := own_IX_wr fAfixings_8 W11
  have fAdays_11 := own_IX_wr fAdays_8 W11
  have fE_11 := fE_8.wr W11
  have fZ_11 := Nat.le_trans fZ_8 (Keep.of_wr W11).1
  have pre12 : ∀ t, Steps p.tables e below (T11.setTop (mkF m 30 #[.val (.ref a1), .val (.int p2), .val (.int p3), .val (.int p4), .val (.int p5), .val (.int p6)] [])) t → Steps p.tables e below (s₁.setTop (entryFrame m #[(.ref a1), (.int p2), (.int p3), (.int p4), (.int p5), (.int p6)] 6)) t := by
    intro t k
    refine pre9 t ?_
    show Steps p.tables e below (T8.setTop (mkF m 22 #[.val (.ref a1), .val (.int p2), .val (.int p3), .val (.int p4), .val (.int p5), .val (.int p6)] [])) _
    refine XS.aloadN X8.here hx rfl (hb hby d4_22) rfl rfl ?_
    show Steps p.tables e below (T8.setTop (mkF m 23 #[.val (.ref a1), .val (.int p2), .val (.int p3), .val (.int p4), .val (.int p5), .val (.int p6)] [(.ref a1)])) _
    refine st10 _ ?_
    show Steps p.tables e below (T10.setTop (mkF m 26 #[.val (.ref a1), .val (.int p2), .val (.int p3), .val (.int p4), .val (.int p5), .val (.int p6)] [(.ref t4)])) _
    refine XS.iloadN X10.here hx rfl (hb hby d4_26) rfl ?_
    show Steps p.tables e below (T10.setTop (mkF m 27 #[.val (.ref a1), .val (.int p2), .val (.int p3), .val (.int p4), .val (.int p5), .val (.int p6)] [(.int p2), (.ref t4)])) _
    refine XS.iload X10.here hx rfl (hb hby d4_27) rfl ?_
    show Steps p.tables e below (T10.setTop (mkF m 29 #[.val (.ref a1), .val (.int p2), .val (.int p3), .val (.int p4), .val (.int p5), .val (.int p6)] [(.int p6), (.int p2), (.ref t4)])) _
    refine st11 _ ?_
    exact k
  obtain ⟨fs, hr, hrun, hended, hW, hsame⟩ := X11.leave (v := none) (fun _ => rfl) (hlocks := BodyLoose.notSynchronized Bd)
  refine ⟨_, _, pre12 _ ?_, hrun, hended, _, _, rfl, ?_, ⟨_, rfl⟩, hW, hsame.mono (by decide) (by decide)⟩
  · show Steps p.tables e below (T11.setTop (mkF m 30 #[.val (.ref a1), .val (.int p2), .val (.int p3), .val (.int p4), .val (.int p5), .val (.int p6)] [])) _
    exact X11.returnOut hx Bd.returns (hb hby d4_30) hr
  · show Qt Z a1 p2 p3 N f st cn fl h0 n0 _ T11.heap _
    rw [e11]
    exact ⟨rfl, N11, fZ_11, ⟨fE_11, fstart_11, fcount_11, ffloats_11, t1, t2, t3, t4, ⟨fends_11, fpayments_11, ffixings_11, fdays_11⟩, ⟨ge1, ge2, ge3, ge4⟩, ⟨ne2, ne3, ne4⟩, fAends_11, fApayments_11, fAfixings_11, fAdays_11⟩⟩
def Qg (Z : State) (a1 : Addr) (p2 : Int32) (f : Nat → Int32) (st : Int64) (h0 : Heap) (n0 : Nat) (v : Option Value) (h : Heap) (L : List Loc) : Prop := (∃ r : Int64, v = some (.long r) ∧ (p2 = 0 → r = st) ∧ (¬ p2 = 0 → r = (f (p2 - (1 : Int32)).toNatClampNeg).toInt64)) ∧ Fr n0 L ∧ h = h0
theorem d5_0 : decode prog_36_method_5_code 0 = .ok (.iload_n 1, 1) := by decide +kernel
theorem d5_1 : decode prog_36_method_5_code 1 = .ok (.ifCond .ne 10, 3) := by decide +kernel
theorem d5_4 : decode prog_36_method_5_code 4 = .ok (.aload_n 0, 1) := by decide +kernel
theorem d5_5 : decode prog_36_method_5_code 5 = .ok (.getfield 28, 3) := by decide +kernel
theorem d5_8 : decode prog_36_method_5_code 8 = .ok (.goto 12, 3) := by decide +kernel
theorem d5_20 : decode prog_36_method_5_code 20 = .ok (.lreturn, 1) := by decide +kernel
theorem d5_11 : decode prog_36_method_5_code 11 = .ok (.aload_n 0, 1) := by decide +kernel
theorem d5_12 : decode prog_36_method_5_code 12 = .ok (.getfield 9, 3) := by decide +kernel
theorem d5_15 : decode prog_36_method_5_code 15 = .ok (.iload_n 1, 1) := by decide +kernel
theorem d5_16 : decode prog_36_method_5_code 16 = .ok (.iconst 1, 1) := by decide +kernel
theorem d5_17 : decode prog_36_method_5_code 17 = .ok (.isub, 1) := by decide +kernel
theorem d5_18 : decode prog_36_method_5_code 18 = .ok (.iaload, 1) := by decide +kernel
theorem d5_19 : decode prog_36_method_5_code 19 = .ok (.i2l, 1) := by decide +kernel
theorem ef_5 (m : MethodId) (a1 : Addr) (p2 : Int32) : entryFrame m #[(.ref a1), (.int p2)] 2 = mkF m 0 #[.val (.ref a1), .val (.int p2)] [] := by first | (simp [entryFrame, mkF, argsToLocals, Value.category]; done) | rfl
set_option maxRecDepth 65536 in
set_option maxHeartbeats 40000000 in
theorem rmG (l : Launch) (Z : State) (a0 : Array Value) (hw : ∀ d ∈ tables_1, d.before a0 Z = true) (ws : List Jvm.Cond) (a1 : Addr) (p2 : Int32) (N : Nat) (f : Nat → Int32) (st : Int64) (cn fl : Int32) (h0 : Heap) (n0 : Nat) (Z0 : n0 ≤ h0.size) (P : own_PD Z h0 n0 a1 N f st cn fl) (hi : 0 ≤ p2.toInt ∧ p2.toInt ≤ N) :
    MetFree l (⟨"com/example/vilkarsbok/vilkarsbok/PeriodDays", "start", "(I)J"⟩ : MethodName) (head1 (Jvm.Cond.code (⟨"com/example/vilkarsbok/vilkarsbok/PeriodDays", "start", "(I)J"⟩ : MethodName) prog_36_method_5_code 2 (some .long) :: ws) ({ frames := 0, cells := 0, slots := 0, locals := 0 } : Room)) (fun a U => a = #[(.ref a1), (.int p2)] ∧ Z.Warmed39 U.vm ∧ U.heap = h0) (fun _ _ _ _ _ => True) (fun _ U o U' => ∃ v L, o = .returned v ∧ Qg Z a1 p2 f st h0 n0 v U'.heap L ∧ FrameEnd U o U' L ({ frames := 0, cells := 0, slots := 0, locals := 0 } : Room).cells ({ frames := 0, cells := 0, slots := 0, locals := 0 } : Room).slots) := by
  refine MetFree.of_bodySF (plainFor_of_name pn_0) hisR ?_
  intro p e s m args below meth c s₁ Bd hml0 hP hK
  obtain ⟨rfl, hZ, hh⟩ := hP
  have hx := Bd.exec
  have hby := Bd.bytes
  have hml : c.maxLocals = 2 := hml0
  have hown : s.vm.findClass "com/example/vilkarsbok/vilkarsbok/PeriodDays" = some m.cls := findClass_of_methodNamed Bd.named
  have hnm := (name_of_methodNamed Bd.named Bd.method).1
  have X0 : Stand p l e ({ frames := 0, cells := 0, slots := 0, locals := 0 } : Room) s m #[(.ref a1), (.int p2)] below meth c s₁ [] 0 0 := Stand.of_body Bd
  have e0 : s₁.heap = h0 := by rw [← hh, Bd.state]; rfl
  have N0 := Fr.nil n0
  have pre0 : ∀ t, Steps p.tables e below (s₁.setTop (mkF m 0 #[.val (.ref a1), .val (.int p2)] [])) t → Steps p.tables e below (s₁.setTop (entryFrame m #[(.ref a1), (.int p2)] 2)) t := fun t k => castTop (ef_5 m a1 p2) k
  obtain ⟨oE, o_start, o_count, o_floats, t1, t2, t3, t4, ⟨o_ends, o_payments, o_fixings, o_days⟩, ⟨ge1, ge2, ge3, ge4⟩, ⟨ne2, ne3, ne4⟩, A1, A2, A3, A4⟩ := P
  have pre1 : ∀ t, Steps p.tables e below (s₁.setTop (mkF m 1 #[.val (.ref a1), .val (.int p2)] [(.int p2)])) t → Steps p.tables e below (s₁.setTop (entryFrame m #[(.ref a1), (.int p2)] 2)) t := by
    intro t k
    refine pre0 t ?_
    show Steps p.tables e below (s₁.setTop (mkF m 0 #[.val (.ref a1), .val (.int p2)] [])) _
    refine XS.iloadN X0.here hx rfl (hb hby d5_0) rfl ?_
    exact k
  by_cases c1 : p2 = (0 : Int32)
  · obtain ⟨T2, X2, e2, st2⟩ := getF X0 hx hZ hown (host := "") (Or.inl (hw _ (List.mem_of_getElem? (i := 23) rfl))) Via.refl e0 o_start (g := (mkF m 5 #[.val (.ref a1), .val (.int p2)] [(.ref a1)])) rfl rfl (hb hby d5_5)
    obtain ⟨fs, hr, hrun, hended, hW, hsame⟩ := X2.leave (v := some (.long st)) (fun h => by rw [Bd.returns] at h; cases h) (hlocks := BodyLoose.notSynchronized Bd)
    refine ⟨_, _, pre1 _ ?_, hrun, hended, _, _, rfl, ?_, ⟨_, rfl⟩, hW, hsame.mono (by decide) (by decide)⟩
    · show Steps p.tables e below (s₁.setTop (mkF m 1 #[.val (.ref a1), .val (.int p2)] [(.int p2)])) _
      refine XS.ifNo X0.here hx rfl (hb hby d5_1) rfl ((if0 _ _).trans (teq c1).2) ?_
      show Steps p.tables e below (s₁.setTop (mkF m 4 #[.val (.ref a1), .val (.int p2)] [])) _
      refine XS.aloadN X0.here hx rfl (hb hby d5_4) rfl rfl ?_
      show Steps p.tables e below (s₁.setTop (mkF m 5 #[.val (.ref a1), .val (.int p2)] [(.ref a1)])) _
      refine st2 _ ?_
      show Steps p.tables e below (T2.setTop (mkF m 8 #[.val (.ref a1), .val (.int p2)] [(.long st)])) _
      refine XS.goto X2.here hx rfl (pc0 := 8) (pc' := 20) rfl (hb hby d5_8) (by decide) (by decide) ?_
      show Steps p.tables e below (T2.setTop (mkF m 20 #[.val (.ref a1), .val (.int p2)] [(.long st)])) _
      exact retOut X2 hx (t := .long) Bd.returns rfl (Or.inr (Or.inl ⟨rfl, rfl, _, rfl⟩)) (hb hby d5_20) hr
    · show Qg Z a1 p2 f st h0 n0 _ T2.heap _
      rw [e2]
      exact ⟨⟨_, rfl, fun _ => rfl, fun z => absurd c1 z⟩, N0, rfl⟩
  · obtain ⟨T3, X3, e3, st3⟩ := getF X0 hx hZ hown (host := "") (Or.inl (hw _ (List.mem_of_getElem? (i := 10) rfl))) Via.refl e0 o_ends (g := (mkF m 12 #[.val (.ref a1), .val (.int p2)] [(.ref a1)])) rfl rfl (hb hby d5_12)
    obtain ⟨d1, Ad1, Sd1, Hd1⟩ := A1
    have hj : 0 ≤ (p2 - (1 : Int32)).toInt ∧ (p2 - (1 : Int32)).toInt < N := by
      have q := c_isub p2 1
      have q1 := Int32.toInt_lt (p2 - 1); have q2 := Int32.le_toInt (p2 - 1); have q4 := Int32.toInt_lt p2
      have q3 : ¬ p2.toInt = 0 := fun z => c1 (Int32.toInt_inj.mp z)
      simp only [Int32.reduceToInt] at *
      omega
    have hat : d1.slots[(p2 - (1 : Int32)).toNatClampNeg]? = some (.int (f (p2 - (1 : Int32)).toNatClampNeg)) := Hd1 _ (by simp only [Int32.toNatClampNeg]; omega)
    obtain ⟨fs, hr, hrun, hended, hW, hsame⟩ := X3.leave (v := some (.long ((f (p2 - (1 : Int32)).toNatClampNeg).toInt64))) (fun h => by rw [Bd.returns] at h; cases h) (hlocks := BodyLoose.notSynchronized Bd)
    refine ⟨_, _, pre1 _ ?_, hrun, hended, _, _, rfl, ?_, ⟨_, rfl⟩, hW, hsame.mono (by decide) (by decide)⟩
    · show Steps p.tables e below (s₁.setTop (mkF m 1 #[.val (.ref a1), .val (.int p2)] [(.int p2)])) _
      refine XS.ifYes X0.here hx rfl (pc0 := 1) (pc' := 11) rfl (hb hby d5_1) rfl ((if0 _ _).trans (feq c1).2) (by decide) (by decide) ?_
      show Steps p.tables e below (s₁.setTop (mkF m 11 #[.val (.ref a1), .val (.int p2)] [])) _
      refine XS.aloadN X0.here hx rfl (hb hby d5_11) rfl rfl ?_
      show Steps p.tables e below (s₁.setTop (mkF m 12 #[.val (.ref a1), .val (.int p2)] [(.ref a1)])) _
      refine st3 _ ?_
      show Steps p.tables e below (T3.setTop (mkF m 15 #[.val (.ref a1), .val (.int p2)] [(.ref t1)])) _
      refine XS.iloadN X3.here hx rfl (hb hby d5_15) rfl ?_
      show Steps p.tables e below (T3.setTop (mkF m 16 #[.val (.ref a1), .val (.int p2)] [(.int p2), (.ref t1)])) _
      refine XS.iconst X3.here hx rfl (hb hby d5_16) ?_
      show Steps p.tables e below (T3.setTop (mkF m 17 #[.val (.ref a1), .val (.int p2)] [(.int (1 : Int32)), (.int p2), (.ref t1)])) _
      refine XS.isub X3.here hx rfl (hb hby d5_17) rfl ?_
      show Steps p.tables e below (T3.setTop (mkF m 18 #[.val (.ref a1), .val (.int p2)] [(.int (p2 - (1 : Int32))), (.ref t1)])) _
      refine X3.iaload hx (j := (p2 - (1 : Int32))) (v := (.int (f (p2 - (1 : Int32)).toNatClampNeg))) (by rw [e3]; exact Ad1.1) (State.isArrayOf_alike hZ.alike Ad1.2.1) Ad1.2.2 (own_in hj Sd1) hat (g := (mkF m 18 #[.val (.ref a1), .val (.int p2)] [(.int (p2 - (1 : Int32))), (.ref t1)])) rfl rfl (hb hby d5_18) _ ?_
      show Steps p.tables e below (T3.setTop (mkF m 19 #[.val (.ref a1), .val (.int p2)] [(.int (f (p2 - (1 : Int32)).toNatClampNeg))])) _
      refine XS.i2l X3.here hx rfl (hb hby d5_19) rfl ?_
      show Steps p.tables e below (T3.setTop (mkF m 20 #[.val (.ref a1), .val (.int p2)] [(.long ((f (p2 - (1 : Int32)).toNatClampNeg).toInt64))])) _
      exact retOut X3 hx (t := .long) Bd.returns rfl (Or.inr (Or.inl ⟨rfl, rfl, _, rfl⟩)) (hb hby d5_20) hr
    · show Qg Z a1 p2 f st h0 n0 _ T3.heap _
      rw [e3]
      exact ⟨⟨_, rfl, fun z => absurd z c1, fun _ => rfl⟩, N0, rfl⟩
def Q0 (Z : State) (sq : Int64) (ea eb ec cc pp : Int32) (h0 : Heap) (n0 : Nat) (v : Option Value) (h : Heap) (L : List Loc) : Prop := v = some (.int (1 : Int32)) ∧ Fr n0 L
theorem pd_1 : parseMethodDescriptor "()V" = some ⟨[], none⟩ := by decide +kernel
theorem pd_2 : parseMethodDescriptor "(JIZ)V" = some ⟨[.long, .int, .boolean], none⟩ := by decide +kernel
theorem pd_3 : parseMethodDescriptor "(IIIII)V" = some ⟨[.int, .int, .int, .int, .int], none⟩ := by decide +kernel
theorem pd_4 : parseMethodDescriptor "(I)J" = some ⟨[.int], some .long⟩ := by decide +kernel
theorem ef_0 (m : MethodId) (sq : Int64) (ea : Int32) (eb : Int32) (ec : Int32) (cc : Int32) (pp : Int32) : entryFrame m #[(.long sq), (.int ea), (.int eb), (.int ec), (.int cc), (.int pp)] maxLocals = mkF m 0 #[.val (.long sq), .second, .val (.int ea), .val (.int eb), .val (.int ec), .val (.int cc), .val (.int pp), .unset, .unset, .unset, .unset, .unset, .unset, .unset] [] := by first | (simp [entryFrame, mkF, argsToLocals, Value.category, maxLocals]; done) | rfl
theorem pn_1 : plainName "com/example/vilkarsbok/vilkarsbok/PeriodDaysStartPinLaw" = true := by first | (simp [plainName, overriddenIn]; done) | decide +kernel
set_option maxRecDepth 65536 in
set_option maxHeartbeats 40000000 in
theorem rm0 (l : Launch) (Z : State) (a0 : Array Value) (hw : ∀ d ∈ tables_1, d.before a0 Z = true) (ws : List Jvm.Cond) (sq : Int64) (ea : Int32) (eb : Int32) (ec : Int32) (cc : Int32) (pp : Int32)  (h0 : Heap) (n0 : Nat) (Z0 : n0 ≤ h0.size)  :
    MetFree l x (head1 (Jvm.Cond.code x code maxLocals ret :: ws) room_1) (fun a U => a = #[(.long sq), (.int ea), (.int eb), (.int ec), (.int cc), (.int pp)] ∧ Z.Warmed39 U.vm ∧ U.heap = h0) (fun _ _ _ _ _ => True) (fun _ U o U' => ∃ v L, o = .returned v ∧ Q0 Z sq ea eb ec cc pp h0 n0 v U'.heap L ∧ FrameEnd U o U' L room_1.cells room_1.slots) := by
  refine MetFree.of_bodySF (plainFor_of_name pn_1) hisR ?_
  intro p e s m args below meth c s₁ Bd hml0 hP hK
  obtain ⟨rfl, hZ, hh⟩ := hP
  have hx := Bd.exec
  have hby := Bd.bytes
  have hml : c.maxLocals = 14 := hml0
  have hown : s.vm.findClass "com/example/vilkarsbok/vilkarsbok/PeriodDaysStartPinLaw" = some m.cls := findClass_of_methodNamed Bd.named
  have hnm := (name_of_methodNamed Bd.named Bd.method).1
  have X0 : Stand p l e room_1 s m #[(.long sq), (.int ea), (.int eb), (.int ec), (.int cc), (.int pp)] below meth c s₁ [] 0 0 := Stand.of_body Bd
  have e0 : s₁.heap = h0 := by rw [← hh, Bd.state]; rfl
  have N0 := Fr.nil n0
  have pre0 : ∀ t, Steps p.tables e below (s₁.setTop (mkF m 0 #[.val (.long sq), .second, .val (.int ea), .val (.int eb), .val (.int ec), .val (.int cc), .val (.int pp), .unset, .unset, .unset, .unset, .unset, .unset, .unset] [])) t → Steps p.tables e below (s₁.setTop (entryFrame m #[(.long sq), (.int ea), (.int eb), (.int ec), (.int cc), (.int pp)] maxLocals)) t := fun t k => castTop (ef_0 m sq ea eb ec cc pp) k
  obtain ⟨cnt, e_cnt⟩ : ∃ z : Int32, z = ((3 : Int32) + (cc &&& (127 : Int32))) := ⟨_, rfl⟩
  have pre1 : ∀ t, Steps p.tables e below (s₁.setTop (mkF m 9 #[.val (.long sq), .second, .val (.int ea), .val (.int eb), .val (.int ec), .val (.int cc), .val (.int pp), .val (.int cnt), .unset, .unset, .unset, .unset, .unset, .unset] [])) t → Steps p.tables e below (s₁.setTop (entryFrame m #[(.long sq), (.int ea), (.int eb), (.int ec), (.int cc), (.int pp)] maxLocals)) t := by
    intro t k
    subst e_cnt
    refine pre0 t ?_
    show Steps p.tables e below (s₁.setTop (mkF m 0 #[.val (.long sq), .second, .val (.int ea), .val (.int eb), .val (.int ec), .val (.int cc), .val (.int pp), .unset, .unset, .unset, .unset, .unset, .unset, .unset] [])) _
    refine XS.iconst X0.here hx rfl (hb hby at_0) ?_
    show Steps p.tables e below (s₁.setTop (mkF m 1 #[.val (.long sq), .second, .val (.int ea), .val (.int eb), .val (.int ec), .val (.int cc), .val (.int pp), .unset, .unset, .unset, .unset, .unset, .unset, .unset] [(.int (3 : Int32))])) _
    refine XS.iload X0.here hx rfl (hb hby at_1) rfl ?_
    show Steps p.tables e below (s₁.setTop (mkF m 3 #[.val (.long sq), .second, .val (.int ea), .val (.int eb), .val (.int ec), .val (.int cc), .val (.int pp), .unset, .unset, .unset, .unset, .unset, .unset, .unset] [(.int cc), (.int (3 : Int32))])) _
    refine XS.bipush X0.here hx rfl (hb hby at_3) ?_
    show Steps p.tables e below (s₁.setTop (mkF m 5 #[.val (.long sq), .second, .val (.int ea), .val (.int eb), .val (.int ec), .val (.int cc), .val (.int pp), .unset, .unset, .unset, .unset, .unset, .unset, .unset] [(.int (127 : Int32)), (.int cc), (.int (3 : Int32))])) _
    refine XS.iand X0.here hx rfl (hb hby at_5) rfl ?_
    show Steps p.tables e below (s₁.setTop (mkF m 6 #[.val (.long sq), .second, .val (.int ea), .val (.int eb), .val (.int ec), .val (.int cc), .val (.int pp), .unset, .unset, .unset, .unset, .unset, .unset, .unset] [(.int (cc &&& (127 : Int32))), (.int (3 : Int32))])) _
    refine XS.iadd X0.here hx rfl (hb hby at_6) rfl ?_
    show Steps p.tables e below (s₁.setTop (mkF m 7 #[.val (.long sq), .second, .val (.int ea), .val (.int eb), .val (.int ec), .val (.int cc), .val (.int pp), .unset, .unset, .unset, .unset, .unset, .unset, .unset] [(.int ((3 : Int32) + (cc &&& (127 : Int32))))])) _
    refine XS.istore X0.here hx rfl (hb hby at_7) rfl (l' := #[.val (.long sq), .second, .val (.int ea), .val (.int eb), .val (.int ec), .val (.int cc), .val (.int pp), .val (.int ((3 : Int32) + (cc &&& (127 : Int32)))), .unset, .unset, .unset, .unset, .unset, .unset]) rfl ?_
    exact k
  have hn : 3 ≤ cnt.toInt ∧ cnt.toInt ≤ 130 := by rw [e_cnt]; exact own_cnt cc
  have pre2 : ∀ t, Steps p.tables e below (s₁.setTop (mkF m 16 #[.val (.long sq), .second, .val (.int ea), .val (.int eb), .val (.int ec), .val (.int cc), .val (.int pp), .val (.int cnt), .unset, .unset, .unset, .unset, .unset, .unset] [(.int (((cc.toUInt32 >>> ((7 : Int32) &&& 31).toUInt32).toInt32) &&& (1 : Int32)))])) t → Steps p.tables e below (s₁.setTop (entryFrame m #[(.long sq), (.int ea), (.int eb), (.int ec), (.int cc), (.int pp)] maxLocals)) t := by
    intro t k
    refine pre1 t ?_
    show Steps p.tables e below (s₁.setTop (mkF m 9 #[.val (.long sq), .second, .val (.int ea), .val (.int eb), .val (.int ec), .val (.int cc), .val (.int pp), .val (.int cnt), .unset, .unset, .unset, .unset, .unset, .unset] [])) _
    refine XS.iload X0.here hx rfl (hb hby at_9) rfl ?_
    show Steps p.tables e below (s₁.setTop (mkF m 11 #[.val (.long sq), .second, .val (.int ea), .val (.int eb), .val (.int ec), .val (.int cc), .val (.int pp), .val (.int cnt), .unset, .unset, .unset, .unset, .unset, .unset] [(.int cc)])) _
    refine XS.bipush X0.here hx rfl (hb hby at_11) ?_
    show Steps p.tables e below (s₁.setTop (mkF m 13 #[.val (.long sq), .second, .val (.int ea), .val (.int eb), .val (.int ec), .val (.int cc), .val (.int pp), .val (.int cnt), .unset, .unset, .unset, .unset, .unset, .unset] [(.int (7 : Int32)), (.int cc)])) _
    refine XS.iushr X0.here hx rfl (hb hby at_13) rfl ?_
    show Steps p.tables e below (s₁.setTop (mkF m 14 #[.val (.long sq), .second, .val (.int ea), .val (.int eb), .val (.int ec), .val (.int cc), .val (.int pp), .val (.int cnt), .unset, .unset, .unset, .unset, .unset, .unset] [(.int ((cc.toUInt32 >>> ((7 : Int32) &&& 31).toUInt32).toInt32))])) _
    refine XS.iconst X0.here hx rfl (hb hby at_14) ?_
    show Steps p.tables e below (s₁.setTop (mkF m 15 #[.val (.long sq), .second, .val (.int ea), .val (.int eb), .val (.int ec), .val (.int cc), .val (.int pp), .val (.int cnt), .unset, .unset, .unset, .unset, .unset, .unset] [(.int (1 : Int32)), (.int ((cc.toUInt32 >>> ((7 : Int32) &&& 31).toUInt32).toInt32))])) _
    refine XS.iand X0.here hx rfl (hb hby at_15) rfl ?_
    exact k
  obtain ⟨fl, pre3⟩ : ∃ (fl : Int32), ∀ t, Steps p.tables e below (s₁.setTop (mkF m 24 #[.val (.long sq), .second, .val (.int ea), .val (.int eb), .val (.int ec), .val (.int cc), .val (.int pp), .val (.int cnt), .unset, .unset, .unset, .unset, .unset, .unset] [(.int fl)])) t → Steps p.tables e below (s₁.setTop (entryFrame m #[(.long sq), (.int ea), (.int eb), (.int ec), (.int cc), (.int pp)] maxLocals)) t := by
    by_cases c16 : (((cc.toUInt32 >>> ((7 : Int32) &&& 31).toUInt32).toInt32) &&& (1 : Int32)) = (0 : Int32)
    · refine ⟨(0 : Int32), fun t k => pre2 t ?_⟩
      show Steps p.tables e below (s₁.setTop (mkF m 16 #[.val (.long sq), .second, .val (.int ea), .val (.int eb), .val (.int ec), .val (.int cc), .val (.int pp), .val (.int cnt), .unset, .unset, .unset, .unset, .unset, .unset] [(.int (((cc.toUInt32 >>> ((7 : Int32) &&& 31).toUInt32).toInt32) &&& (1 : Int32)))])) _
      refine XS.ifYes X0.here hx rfl (pc0 := 16) (pc' := 23) rfl (hb hby at_16) rfl ((if0 _ _).trans (teq c16).1) (by decide) (by decide) ?_
      show Steps p.tables e below (s₁.setTop (mkF m 23 #[.val (.long sq), .second, .val (.int ea), .val (.int eb), .val (.int ec), .val (.int cc), .val (.int pp), .val (.int cnt), .unset, .unset, .unset, .unset, .unset, .unset] [])) _
      refine XS.iconst X0.here hx rfl (hb hby at_23) ?_
      exact k
    · refine ⟨(1 : Int32), fun t k => pre2 t ?_⟩
      show Steps p.tables e below (s₁.setTop (mkF m 16 #[.val (.long sq), .second, .val (.int ea), .val (.int eb), .val (.int ec), .val (.int cc), .val (.int pp), .val (.int cnt), .unset, .unset, .unset, .unset, .unset, .unset] [(.int (((cc.toUInt32 >>> ((7 : Int32) &&& 31).toUInt32).toInt32) &&& (1 : Int32)))])) _
      refine XS.ifNo X0.here hx rfl (hb hby at_16) rfl ((if0 _ _).trans (feq c16).1) ?_
      show Steps p.tables e below (s₁.setTop (mkF m 19 #[.val (.long sq), .second, .val (.int ea), .val (.int eb), .val (.int ec), .val (.int cc), .val (.int pp), .val (.int cnt), .unset, .unset, .unset, .unset, .unset, .unset] [])) _
      refine XS.iconst X0.here hx rfl (hb hby at_19) ?_
      show Steps p.tables e below (s₁.setTop (mkF m 20 #[.val (.long sq), .second, .val (.int ea), .val (.int eb), .val (.int ec), .val (.int cc), .val (.int pp), .val (.int cnt), .unset, .unset, .unset, .unset, .unset, .unset] [(.int (1 : Int32))])) _
      refine XS.goto X0.here hx rfl (pc0 := 20) (pc' := 24) rfl (hb hby at_20) (by decide) (by decide) ?_
      exact k
  obtain ⟨T4, h4, X4, e4, E4, A4, D4, -, st4⟩ := newO X0 hx hZ hown (hw _ (List.mem_of_getElem? (i := 0) rfl)) (hw _ (List.mem_of_getElem? (i := 1) rfl)) (hw _ (List.mem_of_getElem? (i := 2) rfl)) e0 (g := (mkF m 26 #[.val (.long sq), .second, .val (.int ea), .val (.int eb), .val (.int ec), .val (.int cc), .val (.int pp), .val (.int cnt), .val (.int fl), .unset, .unset, .unset, .unset, .unset] [])) rfl (hb hby at_26) (by decide) (by decide)
  obtain ⟨b4, g4⟩ : ∃ z, z = h0.size := ⟨_, rfl⟩
  rw [← g4] at A4 D4 st4
  have F_ends_b4 : Fld Z h4 b4 "com/example/vilkarsbok/vilkarsbok/PeriodDays" "ends" "[I" .null := D4 (Or.inl (hw _ (List.mem_of_getElem? (i := 11) rfl))) (ty := (.array .int)) (by decide)
  have F_payments_b4 : Fld Z h4 b4 "com/example/vilkarsbok/vilkarsbok/PeriodDays" "payments" "[I" .null := D4 (Or.inl (hw _ (List.mem_of_getElem? (i := 13) rfl))) (ty := (.array .int)) (by decide)
  have F_fixings_b4 : Fld Z h4 b4 "com/example/vilkarsbok/vilkarsbok/PeriodDays" "fixings" "[I" .null := D4 (Or.inl (hw _ (List.mem_of_getElem? (i := 15) rfl))) (ty := (.array .int)) (by decide)
  have F_days_b4 : Fld Z h4 b4 "com/example/vilkarsbok/vilkarsbok/PeriodDays" "days" "[I" .null := D4 (Or.inl (hw _ (List.mem_of_getElem? (i := 17) rfl))) (ty := (.array .int)) (by decide)
  have F_start_b4 : Fld Z h4 b4 "com/example/vilkarsbok/vilkarsbok/PeriodDays" "start" "J" (.long (0 : Int64)) := D4 (Or.inl (hw _ (List.mem_of_getElem? (i := 24) rfl))) (ty := .long) (by decide)
  have F_count_b4 : Fld Z h4 b4 "com/example/vilkarsbok/vilkarsbok/PeriodDays" "count" "I" (.int (0 : Int32)) := D4 (Or.inl (hw _ (List.mem_of_getElem? (i := 26) rfl))) (ty := .int) (by decide)
  have F_floats_b4 : Fld Z h4 b4 "com/example/vilkarsbok/vilkarsbok/PeriodDays" "floats" "Z" (.int (0 : Int32)) := D4 (Or.inl (hw _ (List.mem_of_getElem? (i := 28) rfl))) (ty := .boolean) (by decide)
  have E_b4 := A4
  have Zn : n0 ≤ h4.size := Nat.le_trans Z0 E4.1
  have ga : n0 ≤ b4 := Nat.le_trans Z0 (Nat.le_of_eq g4.symm)
  obtain ⟨_, _, ⟨T5, L5, k5, n5⟩, -, X5, ⟨Lc5, hQ5, l5, y5, z5⟩, st5⟩ := X4.specialBack hx (y := (⟨"com/example/vilkarsbok/vilkarsbok/PeriodDays", "<init>", "()V"⟩ : MethodName)) rfl hown (mvT hZ (hw _ (List.mem_of_getElem? (i := 3) rfl))) (mvT hZ (hw _ (List.mem_of_getElem? (i := 4) rfl))) (mvT hZ (hw _ (List.mem_of_getElem? (i := 5) rfl))) (by decide) (backOf (W := 1) (rmI l Z a0 hw [] b4 h4 n0 Zn E_b4 F_ends_b4 F_payments_b4 F_fixings_b4 F_days_b4 F_start_b4 F_count_b4 F_floats_b4 ga) hZ (hw _ (List.mem_of_getElem? (i := 5) rfl)) (hw _ (List.mem_of_getElem? (i := 2) rfl)) (by decide) (by decide)) (g := (mkF m 30 #[.val (.long sq), .second, .val (.int ea), .val (.int eb), .val (.int ec), .val (.int cc), .val (.int pp), .val (.int cnt), .val (.int fl), .unset, .unset, .unset, .unset, .unset] [(.ref b4), (.ref b4)])) rfl (by rw [hml]; rfl) (Steps.refl _) (a := b4) (argsL := []) (rest := [(.ref b4)]) (lenOf pd_1 rfl) rfl (by show 2 * 0 + _ ≤ _; exact Nat.le_of_eq rfl) (hb hby at_30) (fun _ _ => ⟨rfl, e4, (by decide : 1 + 4 ≤ _), (by decide : 7 + 256 ≤ _)⟩)
  dsimp only [Pt.U, Pt.locs, Pt.cells, Pt.slots] at X5 l5 y5 z5 st5 hQ5
  subst l5 y5 z5
  obtain ⟨rfl, N5q, Za, Pa⟩ := hQ5
  have N5 := Fr.app N0 N5q
  have oEa := Pa.1
  obtain ⟨cq6, kq6, q6a, q6b, q6c⟩ := isOf hZ rfl Pa.1
  obtain ⟨_, _, ⟨T6, L6, k6, n6⟩, -, X6, ⟨Lc6, hQ6, l6, y6, z6⟩, st6⟩ := X5.virtualBack hx (y := (⟨"com/example/vilkarsbok/vilkarsbok/PeriodDays", "begin", "(JIZ)V"⟩ : MethodName)) (z := (⟨"com/example/vilkarsbok/vilkarsbok/PeriodDays", "begin", "(JIZ)V"⟩ : MethodName)) hown (mvT hZ (hw _ (List.mem_of_getElem? (i := 18) rfl))) (mvT hZ (hw _ (List.mem_of_getElem? (i := 19) rfl))) (notFace_of_selects (args := #[]) (mvT hZ (hw _ (List.mem_of_getElem? (i := 21) rfl)))) (mvT hZ (hw _ (List.mem_of_getElem? (i := 21) rfl))) (mvT hZ (hw _ (List.mem_of_getElem? (i := 20) rfl))) (by decide) (backOf (W := 0) (rmB l Z a0 hw [] b4 sq cnt fl T5.heap n0 Za Pa ga hn) hZ (hw _ (List.mem_of_getElem? (i := 22) rfl)) (hw _ (List.mem_of_getElem? (i := 2) rfl)) (by decide) (by decide)) q6a q6c (g := (mkF m 42 #[.val (.long sq), .second, .val (.int ea), .val (.int eb), .val (.int ec), .val (.int cc), .val (.int pp), .val (.int cnt), .val (.int fl), .val (.ref b4), .unset, .unset, .unset, .unset] [(.int fl), (.int cnt), (.long sq), (.ref b4)])) rfl (by rw [hml]; rfl) (Steps.refl _) (argsL := [(.long sq), (.int cnt), (.int fl)]) (rest := []) (lenOf pd_2 rfl) rfl (by show 2 * 0 + _ ≤ _; exact Nat.le_of_eq rfl) (hb hby at_42) (fun _ _ => ⟨rfl, rfl, (by decide : 5 + 4 ≤ _), (by decide : 263 + 520 ≤ _)⟩)
  dsimp only [Pt.U, Pt.locs, Pt.cells, Pt.slots] at X6 l6 y6 z6 st6 hQ6
  subst l6 y6 z6
  obtain ⟨rfl, N6q, Zb, NN, ff, hN, Pb⟩ := hQ6
  have N6 := Fr.app N5 N6q
  have pre7 : ∀ t, Steps p.tables e below (T6.setTop (mkF m 45 #[.val (.long sq), .second, .val (.int ea), .val (.int eb), .val (.int ec), .val (.int cc), .val (.int pp), .val (.int cnt), .val (.int fl), .val (.ref b4), .unset, .unset, .unset, .unset] [])) t → Steps p.tables e below (s₁.setTop (entryFrame m #[(.long sq), (.int ea), (.int eb), (.int ec), (.int cc), (.int pp)] maxLocals)) t := by
    intro t k
    refine pre3 t ?_
    show Steps p.tables e below (s₁.setTop (mkF m 24 #[.val (.long sq), .second, .val (.int ea), .val (.int eb), .val (.int ec), .val (.int cc), .val (.int pp), .val (.int cnt), .unset, .unset, .unset, .unset, .unset, .unset] [(.int fl)])) _
    refine XS.istore X0.here hx rfl (hb hby at_24) rfl (l' := #[.val (.long sq), .second, .val (.int ea), .val (.int eb), .val (.int ec), .val (.int cc), .val (.int pp), .val (.int cnt), .val (.int fl), .unset, .unset, .unset, .unset, .unset]) rfl ?_
    show Steps p.tables e below (s₁.setTop (mkF m 26 #[.val (.long sq), .second, .val (.int ea), .val (.int eb), .val (.int ec), .val (.int cc), .val (.int pp), .val (.int cnt), .val (.int fl), .unset, .unset, .unset, .unset, .unset] [])) _
    refine st4 _ ?_
    show Steps p.tables e below (T4.setTop (mkF m 29 #[.val (.long sq), .second, .val (.int ea), .val (.int eb), .val (.int ec), .val (.int cc), .val (.int pp), .val (.int cnt), .val (.int fl), .unset, .unset, .unset, .unset, .unset] [(.ref b4)])) _
    refine XS.dup X4.here hx rfl (hb hby at_29) rfl rfl ?_
    show Steps p.tables e below (T4.setTop (mkF m 30 #[.val (.long sq), .second, .val (.int ea), .val (.int eb), .val (.int ec), .val (.int cc), .val (.int pp), .val (.int cnt), .val (.int fl), .unset, .unset, .unset, .unset, .unset] [(.ref b4), (.ref b4)])) _
    refine st5.trans ?_
    show Steps p.tables e below (T5.setTop (mkF m 33 #[.val (.long sq), .second, .val (.int ea), .val (.int eb), .val (.int ec), .val (.int cc), .val (.int pp), .val (.int cnt), .val (.int fl), .unset, .unset, .unset, .unset, .unset] [(.ref b4)])) _
    refine XS.astore X5.here hx rfl (hb hby at_33) rfl rfl (l' := #[.val (.long sq), .second, .val (.int ea), .val (.int eb), .val (.int ec), .val (.int cc), .val (.int pp), .val (.int cnt), .val (.int fl), .val (.ref b4), .unset, .unset, .unset, .unset]) rfl ?_
    show Steps p.tables e below (T5.setTop (mkF m 35 #[.val (.long sq), .second, .val (.int ea), .val (.int eb), .val (.int ec), .val (.int cc), .val (.int pp), .val (.int cnt), .val (.int fl), .val (.ref b4), .unset, .unset, .unset, .unset] [])) _
    refine XS.aload X5.here hx rfl (hb hby at_35) rfl rfl ?_
    show Steps p.tables e below (T5.setTop (mkF m 37 #[.val (.long sq), .second, .val (.int ea), .val (.int eb), .val (.int ec), .val (.int cc), .val (.int pp), .val (.int cnt), .val (.int fl), .val (.ref b4), .unset, .unset, .unset, .unset] [(.ref b4)])) _
    refine XS.lloadN X5.here hx rfl (hb hby at_37) rfl ?_
    show Steps p.tables e below (T5.setTop (mkF m 38 #[.val (.long sq), .second, .val (.int ea), .val (.int eb), .val (.int ec), .val (.int cc), .val (.int pp), .val (.int cnt), .val (.int fl), .val (.ref b4), .unset, .unset, .unset, .unset] [(.long sq), (.ref b4)])) _
    refine XS.iload X5.here hx rfl (hb hby at_38) rfl ?_
    show Steps p.tables e below (T5.setTop (mkF m 40 #[.val (.long sq), .second, .val (.int ea), .val (.int eb), .val (.int ec), .val (.int cc), .val (.int pp), .val (.int cnt), .val (.int fl), .val (.ref b4), .unset, .unset, .unset, .unset] [(.int cnt), (.long sq), (.ref b4)])) _
    refine XS.iload X5.here hx rfl (hb hby at_40) rfl ?_
    show Steps p.tables e below (T5.setTop (mkF m 42 #[.val (.long sq), .second, .val (.int ea), .val (.int eb), .val (.int ec), .val (.int cc), .val (.int pp), .val (.int cnt), .val (.int fl), .val (.ref b4), .unset, .unset, .unset, .unset] [(.int fl), (.int cnt), (.long sq), (.ref b4)])) _
    refine st6.trans ?_
    exact k
  obtain ⟨cq8, kq8, q8a, q8b, q8c⟩ := isOf hZ rfl Pb.1
  obtain ⟨_, _, ⟨T8, L8, k8, n8⟩, -, X8, ⟨Lc8, hQ8, l8, y8, z8⟩, st8⟩ := X6.virtualBack hx (y := (⟨"com/example/vilkarsbok/vilkarsbok/PeriodDays", "set", "(IIIII)V"⟩ : MethodName)) (z := (⟨"com/example/vilkarsbok/vilkarsbok/PeriodDays", "set", "(IIIII)V"⟩ : MethodName)) hown (mvT hZ (hw _ (List.mem_of_getElem? (i := 29) rfl))) (mvT hZ (hw _ (List.mem_of_getElem? (i := 30) rfl))) (notFace_of_selects (args := #[]) (mvT hZ (hw _ (List.mem_of_getElem? (i := 32) rfl)))) (mvT hZ (hw _ (List.mem_of_getElem? (i := 32) rfl))) (mvT hZ (hw _ (List.mem_of_getElem? (i := 31) rfl))) (by decide) (backOf (W := 0) (rmT l Z a0 hw [] b4 (0 : Int32) ea pp (pp ^^^ (-1 : Int32)) (pp + (1 : Int32)) NN ff sq cnt (nar .boolean fl) T6.heap n0 Zb Pb ⟨by decide, by simp only [Int32.reduceToInt]; omega⟩) hZ (hw _ (List.mem_of_getElem? (i := 33) rfl)) (hw _ (List.mem_of_getElem? (i := 2) rfl)) (by decide) (by decide)) q8a q8c (g := (mkF m 59 #[.val (.long sq), .second, .val (.int ea), .val (.int eb), .val (.int ec), .val (.int cc), .val (.int pp), .val (.int cnt), .val (.int fl), .val (.ref b4), .unset, .unset, .unset, .unset] [(.int (pp + (1 : Int32))), (.int (pp ^^^ (-1 : Int32))), (.int pp), (.int ea), (.int (0 : Int32)), (.ref b4)])) rfl (by rw [hml]; rfl) (Steps.refl _) (argsL := [(.int (0 : Int32)), (.int ea), (.int pp), (.int (pp ^^^ (-1 : Int32))), (.int (pp + (1 : Int32)))]) (rest := []) (lenOf pd_3 rfl) rfl (by show 2 * 0 + _ ≤ _; exact Nat.le_of_eq rfl) (hb hby at_59) (fun _ _ => ⟨rfl, rfl, (by decide : 9 + 0 ≤ _), (by decide : 783 + 0 ≤ _)⟩)
  dsimp only [Pt.U, Pt.locs, Pt.cells, Pt.slots] at X8 l8 y8 z8 st8 hQ8
  subst l8 y8 z8
  obtain ⟨rfl, N8q, Zc, Pc⟩ := hQ8
  have N8 := Fr.app N6 N8q
  have pre9 : ∀ t, Steps p.tables e below (T8.setTop (mkF m 62 #[.val (.long sq), .second, .val (.int ea), .val (.int eb), .val (.int ec), .val (.int cc), .val (.int pp), .val (.int cnt), .val (.int fl), .val (.ref b4), .unset, .unset, .unset, .unset] [])) t → Steps p.tables e below (s₁.setTop (entryFrame m #[(.long sq), (.int ea), (.int eb), (.int ec), (.int cc), (.int pp)] maxLocals)) t := by
    intro t k
    refine pre7 t ?_
    show Steps p.tables e below (T6.setTop (mkF m 45 #[.val (.long sq), .second, .val (.int ea), .val (.int eb), .val (.int ec), .val (.int cc), .val (.int pp), .val (.int cnt), .val (.int fl), .val (.ref b4), .unset, .unset, .unset, .unset] [])) _
    refine XS.aload X6.here hx rfl (hb hby at_45) rfl rfl ?_
    show Steps p.tables e below (T6.setTop (mkF m 47 #[.val (.long sq), .second, .val (.int ea), .val (.int eb), .val (.int ec), .val (.int cc), .val (.int pp), .val (.int cnt), .val (.int fl), .val (.ref b4), .unset, .unset, .unset, .unset] [(.ref b4)])) _
    refine XS.iconst X6.here hx rfl (hb hby at_47) ?_
    show Steps p.tables e below (T6.setTop (mkF m 48 #[.val (.long sq), .second, .val (.int ea), .val (.int eb), .val (.int ec), .val (.int cc), .val (.int pp), .val (.int cnt), .val (.int fl), .val (.ref b4), .unset, .unset, .unset, .unset] [(.int (0 : Int32)), (.ref b4)])) _
    refine XS.iloadN X6.here hx rfl (hb hby at_48) rfl ?_
    show Steps p.tables e below (T6.setTop (mkF m 49 #[.val (.long sq), .second, .val (.int ea), .val (.int eb), .val (.int ec), .val (.int cc), .val (.int pp), .val (.int cnt), .val (.int fl), .val (.ref b4), .unset, .unset, .unset, .unset] [(.int ea), (.int (0 : Int32)), (.ref b4)])) _
    refine XS.iload X6.here hx rfl (hb hby at_49) rfl ?_
    show Steps p.tables e below (T6.setTop (mkF m 51 #[.val (.long sq), .second, .val (.int ea), .val (.int eb), .val (.int ec), .val (.int cc), .val (.int pp), .val (.int cnt), .val (.int fl), .val (.ref b4), .unset, .unset, .unset, .unset] [(.int pp), (.int ea), (.int (0 : Int32)), (.ref b4)])) _
    refine XS.iload X6.here hx rfl (hb hby at_51) rfl ?_
    show Steps p.tables e below (T6.setTop (mkF m 53 #[.val (.long sq), .second, .val (.int ea), .val (.int eb), .val (.int ec), .val (.int cc), .val (.int pp), .val (.int cnt), .val (.int fl), .val (.ref b4), .unset, .unset, .unset, .unset] [(.int pp), (.int pp), (.int ea), (.int (0 : Int32)), (.ref b4)])) _
    refine XS.iconst X6.here hx rfl (hb hby at_53) ?_
    show Steps p.tables e below (T6.setTop (mkF m 54 #[.val (.long sq), .second, .val (.int ea), .val (.int eb), .val (.int ec), .val (.int cc), .val (.int pp), .val (.int cnt), .val (.int fl), .val (.ref b4), .unset, .unset, .unset, .unset] [(.int (-1 : Int32)), (.int pp), (.int pp), (.int ea), (.int (0 : Int32)), (.ref b4)])) _
    refine XS.ixor X6.here hx rfl (hb hby at_54) rfl ?_
    show Steps p.tables e below (T6.setTop (mkF m 55 #[.val (.long sq), .second, .val (.int ea), .val (.int eb), .val (.int ec), .val (.int cc), .val (.int pp), .val (.int cnt), .val (.int fl), .val (.ref b4), .unset, .unset, .unset, .unset] [(.int (pp ^^^ (-1 : Int32))), (.int pp), (.int ea), (.int (0 : Int32)), (.ref b4)])) _
    refine XS.iload X6.here hx rfl (hb hby at_55) rfl ?_
    show Steps p.tables e below (T6.setTop (mkF m 57 #[.val (.long sq), .second, .val (.int ea), .val (.int eb), .val (.int ec), .val (.int cc), .val (.int pp), .val (.int cnt), .val (.int fl), .val (.ref b4), .unset, .unset, .unset, .unset] [(.int pp), (.int (pp ^^^ (-1 : Int32))), (.int pp), (.int ea), (.int (0 : Int32)), (.ref b4)])) _
    refine XS.iconst X6.here hx rfl (hb hby at_57) ?_
    show Steps p.tables e below (T6.setTop (mkF m 58 #[.val (.long sq), .second, .val (.int ea), .val (.int eb), .val (.int ec), .val (.int cc), .val (.int pp), .val (.int cnt), .val (.int fl), .val (.ref b4), .unset, .unset, .unset, .unset] [(.int (1 : Int32)), (.int pp), (.int (pp ^^^ (-1 : Int32))), (.int pp), (.int ea), (.int (0 : Int32)), (.ref b4)])) _
    refine XS.iadd X6.here hx rfl (hb hby at_58) rfl ?_
    show Steps p.tables e below (T6.setTop (mkF m 59 #[.val (.long sq), .second, .val (.int ea), .val (.int eb), .val (.int ec), .val (.int cc), .val (.int pp), .val (.int cnt), .val (.int fl), .val (.ref b4), .unset, .unset, .unset, .unset] [(.int (pp + (1 : Int32))), (.int (pp ^^^ (-1 : Int32))), (.int pp), (.int ea), (.int (0 : Int32)), (.ref b4)])) _
    refine st8.trans ?_
    exact k
  obtain ⟨cq10, kq10, q10a, q10b, q10c⟩ := isOf hZ rfl Pc.1
  obtain ⟨_, _, ⟨T10, L10, k10, n10⟩, -, X10, ⟨Lc10, hQ10, l10, y10, z10⟩, st10⟩ := X8.virtualBack hx (y := (⟨"com/example/vilkarsbok/vilkarsbok/PeriodDays", "set", "(IIIII)V"⟩ : MethodName)) (z := (⟨"com/example/vilkarsbok/vilkarsbok/PeriodDays", "set", "(IIIII)V"⟩ : MethodName)) hown (mvT hZ (hw _ (List.mem_of_getElem? (i := 29) rfl))) (mvT hZ (hw _ (List.mem_of_getElem? (i := 30) rfl))) (notFace_of_selects (args := #[]) (mvT hZ (hw _ (List.mem_of_getElem? (i := 32) rfl)))) (mvT hZ (hw _ (List.mem_of_getElem? (i := 32) rfl))) (mvT hZ (hw _ (List.mem_of_getElem? (i := 31) rfl))) (by decide) (backOf (W := 0) (rmT l Z a0 hw [] b4 (1 : Int32) eb (pp ^^^ (-1 : Int32)) pp (pp - (1 : Int32)) NN (own_upd ff ((0 : Int32)).toNatClampNeg ea) sq cnt (nar .boolean fl) T8.heap n0 Zc Pc ⟨by decide, by simp only [Int32.reduceToInt]; omega⟩) hZ (hw _ (List.mem_of_getElem? (i := 33) rfl)) (hw _ (List.mem_of_getElem? (i := 2) rfl)) (by decide) (by decide)) q10a q10c (g := (mkF m 76 #[.val (.long sq), .second, .val (.int ea), .val (.int eb), .val (.int ec), .val (.int cc), .val (.int pp), .val (.int cnt), .val (.int fl), .val (.ref b4), .unset, .unset, .unset, .unset] [(.int (pp - (1 : Int32))), (.int pp), (.int (pp ^^^ (-1 : Int32))), (.int eb), (.int (1 : Int32)), (.ref b4)])) rfl (by rw [hml]; rfl) (Steps.refl _) (argsL := [(.int (1 : Int32)), (.int eb), (.int (pp ^^^ (-1 : Int32))), (.int pp), (.int (pp - (1 : Int32)))]) (rest := []) (lenOf pd_3 rfl) rfl (by show 2 * 0 + _ ≤ _; exact Nat.le_of_eq rfl) (hb hby at_76) (fun _ _ => ⟨rfl, rfl, (by decide : 9 + 0 ≤ _), (by decide : 783 + 0 ≤ _)⟩)
  dsimp only [Pt.U, Pt.locs, Pt.cells, Pt.slots] at X10 l10 y10 z10 st10 hQ10
  subst l10 y10 z10
  obtain ⟨rfl, N10q, Zd, Pd⟩ := hQ10
  have N10 := Fr.app N8 N10q
  have pre11 : ∀ t, Steps p.tables e below (T10.setTop (mkF m 79 #[.val (.long sq), .second, .val (.int ea), .val (.int eb), .val (.int ec), .val (.int cc), .val (.int pp), .val (.int cnt), .val (.int fl), .val (.ref b4), .unset, .unset, .unset, .unset] [])) t → Steps p.tables e below (s₁.setTop (entryFrame m #[(.long sq), (.int ea), (.int eb), (.int ec), (.int cc), (.int pp)] maxLocals)) t := by
    intro t k
    refine pre9 t ?_
    show Steps p.tables e below (T8.setTop (mkF m 62 #[.val (.long sq), .second, .val (.int ea), .val (.int eb), .val (.int ec), .val (.int cc), .val (.int pp), .val (.int cnt), .val (.int fl), .val (.ref b4), .unset, .unset, .unset, .unset] [])) _
    refine XS.aload X8.here hx rfl (hb hby at_62) rfl rfl ?_
    show Steps p.tables e below (T8.setTop (mkF m 64 #[.val (.long sq), .second, .val (.int ea), .val (.int eb), .val (.int ec), .val (.int cc), .val (.int pp), .val (.int cnt), .val (.int fl), .val (.ref b4), .unset, .unset, .unset, .unset] [(.ref b4)])) _
    refine XS.iconst X8.here hx rfl (hb hby at_64) ?_
    show Steps p.tables e below (T8.setTop (mkF m 65 #[.val (.long sq), .second, .val (.int ea), .val (.int eb), .val (.int ec), .val (.int cc), .val (.int pp), .val (.int cnt), .val (.int fl), .val (.ref b4), .unset, .unset, .unset, .unset] [(.int (1 : Int32)), (.ref b4)])) _
    refine XS.iloadN X8.here hx rfl (hb hby at_65) rfl ?_
    show Steps p.tables e below (T8.setTop (mkF m 66 #[.val (.long sq), .second, .val (.int ea), .val (.int eb), .val (.int ec), .val (.int cc), .val (.int pp), .val (.int cnt), .val (.int fl), .val (.ref b4), .unset, .unset, .unset, .unset] [(.int eb), (.int (1 : Int32)), (.ref b4)])) _
    refine XS.iload X8.here hx rfl (hb hby at_66) rfl ?_
    show Steps p.tables e below (T8.setTop (mkF m 68 #[.val (.long sq), .second, .val (.int ea), .val (.int eb), .val (.int ec), .val (.int cc), .val (.int pp), .val (.int cnt), .val (.int fl), .val (.ref b4), .unset, .unset, .unset, .unset] [(.int pp), (.int eb), (.int (1 : Int32)), (.ref b4)])) _
    refine XS.iconst X8.here hx rfl (hb hby at_68) ?_
    show Steps p.tables e below (T8.setTop (mkF m 69 #[.val (.long sq), .second, .val (.int ea), .val (.int eb), .val (.int ec), .val (.int cc), .val (.int pp), .val (.int cnt), .val (.int fl), .val (.ref b4), .unset, .unset, .unset, .unset] [(.int (-1 : Int32)), (.int pp), (.int eb), (.int (1 : Int32)), (.ref b4)])) _
    refine XS.ixor X8.here hx rfl (hb hby at_69) rfl ?_
    show Steps p.tables e below (T8.setTop (mkF m 70 #[.val (.long sq), .second, .val (.int ea), .val (.int eb), .val (.int ec), .val (.int cc), .val (.int pp), .val (.int cnt), .val (.int fl), .val (.ref b4), .unset, .unset, .unset, .unset] [(.int (pp ^^^ (-1 : Int32))), (.int eb), (.int (1 : Int32)), (.ref b4)])) _
    refine XS.iload X8.here hx rfl (hb hby at_70) rfl ?_
    show Steps p.tables e below (T8.setTop (mkF m 72 #[.val (.long sq), .second, .val (.int ea), .val (.int eb), .val (.int ec), .val (.int cc), .val (.int pp), .val (.int cnt), .val (.int fl), .val (.ref b4), .unset, .unset, .unset, .unset] [(.int pp), (.int (pp ^^^ (-1 : Int32))), (.int eb), (.int (1 : Int32)), (.ref b4)])) _
    refine XS.iload X8.here hx rfl (hb hby at_72) rfl ?_
    show Steps p.tables e below (T8.setTop (mkF m 74 #[.val (.long sq), .second, .val (.int ea), .val (.int eb), .val (.int ec), .val (.int cc), .val (.int pp), .val (.int cnt), .val (.int fl), .val (.ref b4), .unset, .unset, .unset, .unset] [(.int pp), (.int pp), (.int (pp ^^^ (-1 : Int32))), (.int eb), (.int (1 : Int32)), (.ref b4)])) _
    refine XS.iconst X8.here hx rfl (hb hby at_74) ?_
    show Steps p.tables e below (T8.setTop (mkF m 75 #[.val (.long sq), .second, .val (.int ea), .val (.int eb), .val (.int ec), .val (.int cc), .val (.int pp), .val (.int cnt), .val (.int fl), .val (.ref b4), .unset, .unset, .unset, .unset] [(.int (1 : Int32)), (.int pp), (.int pp), (.int (pp ^^^ (-1 : Int32))), (.int eb), (.int (1 : Int32)), (.ref b4)])) _
    refine XS.isub X8.here hx rfl (hb hby at_75) rfl ?_
    show Steps p.tables e below (T8.setTop (mkF m 76 #[.val (.long sq), .second, .val (.int ea), .val (.int eb), .val (.int ec), .val (.int cc), .val (.int pp), .val (.int cnt), .val (.int fl), .val (.ref b4), .unset, .unset, .unset, .unset] [(.int (pp - (1 : Int32))), (.int pp), (.int (pp ^^^ (-1 : Int32))), (.int eb), (.int (1 : Int32)), (.ref b4)])) _
    refine st10.trans ?_
    exact k
  obtain ⟨j, e_j⟩ : ∃ z : Int32, z = (cnt - (2 : Int32)) := ⟨_, rfl⟩
  have pre12 : ∀ t, Steps p.tables e below (T10.setTop (mkF m 85 #[.val (.long sq), .second, .val (.int ea), .val (.int eb), .val (.int ec), .val (.int cc), .val (.int pp), .val (.int cnt), .val (.int fl), .val (.ref b4), .val (.int j), .unset, .unset, .unset] [])) t → Steps p.tables e below (s₁.setTop (entryFrame m #[(.long sq), (.int ea), (.int eb), (.int ec), (.int cc), (.int pp)] maxLocals)) t := by
    intro t k
    subst e_j
    refine pre11 t ?_
    show Steps p.tables e below (T10.setTop (mkF m 79 #[.val (.long sq), .second, .val (.int ea), .val (.int eb), .val (.int ec), .val (.int cc), .val (.int pp), .val (.int cnt), .val (.int fl), .val (.ref b4), .unset, .unset, .unset, .unset] [])) _
    refine XS.iload X10.here hx rfl (hb hby at_79) rfl ?_
    show Steps p.tables e below (T10.setTop (mkF m 81 #[.val (.long sq), .second, .val (.int ea), .val (.int eb), .val (.int ec), .val (.int cc), .val (.int pp), .val (.int cnt), .val (.int fl), .val (.ref b4), .unset, .unset, .unset, .unset] [(.int cnt)])) _
    refine XS.iconst X10.here hx rfl (hb hby at_81) ?_
    show Steps p.tables e below (T10.setTop (mkF m 82 #[.val (.long sq), .second, .val (.int ea), .val (.int eb), .val (.int ec), .val (.int cc), .val (.int pp), .val (.int cnt), .val (.int fl), .val (.ref b4), .unset, .unset, .unset, .unset] [(.int (2 : Int32)), (.int cnt)])) _
    refine XS.isub X10.here hx rfl (hb hby at_82) rfl ?_
    show Steps p.tables e below (T10.setTop (mkF m 83 #[.val (.long sq), .second, .val (.int ea), .val (.int eb), .val (.int ec), .val (.int cc), .val (.int pp), .val (.int cnt), .val (.int fl), .val (.ref b4), .unset, .unset, .unset, .unset] [(.int (cnt - (2 : Int32)))])) _
    refine XS.istore X10.here hx rfl (hb hby at_83) rfl (l' := #[.val (.long sq), .second, .val (.int ea), .val (.int eb), .val (.int ec), .val (.int cc), .val (.int pp), .val (.int cnt), .val (.int fl), .val (.ref b4), .val (.int (cnt - (2 : Int32))), .unset, .unset, .unset]) rfl ?_
    exact k
  obtain ⟨j1, j2, j3, j4⟩ := own_j hn e_j
  obtain ⟨cq13, kq13, q13a, q13b, q13c⟩ := isOf hZ rfl Pd.1
  obtain ⟨_, _, ⟨T13, L13, k13, n13⟩, -, X13, ⟨Lc13, hQ13, l13, y13, z13⟩, st13⟩ := X10.virtualBack hx (y := (⟨"com/example/vilkarsbok/vilkarsbok/PeriodDays", "set", "(IIIII)V"⟩ : MethodName)) (z := (⟨"com/example/vilkarsbok/vilkarsbok/PeriodDays", "set", "(IIIII)V"⟩ : MethodName)) hown (mvT hZ (hw _ (List.mem_of_getElem? (i := 29) rfl))) (mvT hZ (hw _ (List.mem_of_getElem? (i := 30) rfl))) (notFace_of_selects (args := #[]) (mvT hZ (hw _ (List.mem_of_getElem? (i := 32) rfl)))) (mvT hZ (hw _ (List.mem_of_getElem? (i := 32) rfl))) (mvT hZ (hw _ (List.mem_of_getElem? (i := 31) rfl))) (by decide) (backOf (W := 0) (rmT l Z a0 hw [] b4 j ec (pp ^^^ (3 : Int32)) (pp ^^^ (5 : Int32)) (pp ^^^ (6 : Int32)) NN (own_upd (own_upd ff ((0 : Int32)).toNatClampNeg ea) ((1 : Int32)).toNatClampNeg eb) sq cnt (nar .boolean fl) T10.heap n0 Zd Pd ⟨by omega, by omega⟩) hZ (hw _ (List.mem_of_getElem? (i := 33) rfl)) (hw _ (List.mem_of_getElem? (i := 2) rfl)) (by decide) (by decide)) q13a q13c (g := (mkF m 104 #[.val (.long sq), .second, .val (.int ea), .val (.int eb), .val (.int ec), .val (.int cc), .val (.int pp), .val (.int cnt), .val (.int fl), .val (.ref b4), .val (.int j), .unset, .unset, .unset] [(.int (pp ^^^ (6 : Int32))), (.int (pp ^^^ (5 : Int32))), (.int (pp ^^^ (3 : Int32))), (.int ec), (.int j), (.ref b4)])) rfl (by rw [hml]; rfl) (Steps.refl _) (argsL := [(.int j), (.int ec), (.int (pp ^^^ (3 : Int32))), (.int (pp ^^^ (5 : Int32))), (.int (pp ^^^ (6 : Int32)))]) (rest := []) (lenOf pd_3 rfl) rfl (by show 2 * 0 + _ ≤ _; exact Nat.le_of_eq rfl) (hb hby at_104) (fun _ _ => ⟨rfl, rfl, (by decide : 9 + 0 ≤ _), (by decide : 783 + 0 ≤ _)⟩)
  dsimp only [Pt.U, Pt.locs, Pt.cells, Pt.slots] at X13 l13 y13 z13 st13 hQ13
  subst l13 y13 z13
  obtain ⟨rfl, N13q, Ze, Pe⟩ := hQ13
  have N13 := Fr.app N10 N13q
  have pre14 : ∀ t, Steps p.tables e below (T13.setTop (mkF m 107 #[.val (.long sq), .second, .val (.int ea), .val (.int eb), .val (.int ec), .val (.int cc), .val (.int pp), .val (.int cnt), .val (.int fl), .val (.ref b4), .val (.int j), .unset, .unset, .unset] [])) t → Steps p.tables e below (s₁.setTop (entryFrame m #[(.long sq), (.int ea), (.int eb), (.int ec), (.int cc), (.int pp)] maxLocals)) t := by
    intro t k
    refine pre12 t ?_
    show Steps p.tables e below (T10.setTop (mkF m 85 #[.val (.long sq), .second, .val (.int ea), .val (.int eb), .val (.int ec), .val (.int cc), .val (.int pp), .val (.int cnt), .val (.int fl), .val (.ref b4), .val (.int j), .unset, .unset, .unset] [])) _
    refine XS.aload X10.here hx rfl (hb hby at_85) rfl rfl ?_
    show Steps p.tables e below (T10.setTop (mkF m 87 #[.val (.long sq), .second, .val (.int ea), .val (.int eb), .val (.int ec), .val (.int cc), .val (.int pp), .val (.int cnt), .val (.int fl), .val (.ref b4), .val (.int j), .unset, .unset, .unset] [(.ref b4)])) _
    refine XS.iload X10.here hx rfl (hb hby at_87) rfl ?_
    show Steps p.tables e below (T10.setTop (mkF m 89 #[.val (.long sq), .second, .val (.int ea), .val (.int eb), .val (.int ec), .val (.int cc), .val (.int pp), .val (.int cnt), .val (.int fl), .val (.ref b4), .val (.int j), .unset, .unset, .unset] [(.int j), (.ref b4)])) _
    refine XS.iload X10.here hx rfl (hb hby at_89) rfl ?_
    show Steps p.tables e below (T10.setTop (mkF m 91 #[.val (.long sq), .second, .val (.int ea), .val (.int eb), .val (.int ec), .val (.int cc), .val (.int pp), .val (.int cnt), .val (.int fl), .val (.ref b4), .val (.int j), .unset, .unset, .unset] [(.int ec), (.int j), (.ref b4)])) _
    refine XS.iload X10.here hx rfl (hb hby at_91) rfl ?_
    show Steps p.tables e below (T10.setTop (mkF m 93 #[.val (.long sq), .second, .val (.int ea), .val (.int eb), .val (.int ec), .val (.int cc), .val (.int pp), .val (.int cnt), .val (.int fl), .val (.ref b4), .val (.int j), .unset, .unset, .unset] [(.int pp), (.int ec), (.int j), (.ref b4)])) _
    refine XS.iconst X10.here hx rfl (hb hby at_93) ?_
    show Steps p.tables e below (T10.setTop (mkF m 94 #[.val (.long sq), .second, .val (.int ea), .val (.int eb), .val (.int ec), .val (.int cc), .val (.int pp), .val (.int cnt), .val (.int fl), .val (.ref b4), .val (.int j), .unset, .unset, .unset] [(.int (3 : Int32)), (.int pp), (.int ec), (.int j), (.ref b4)])) _
    refine XS.ixor X10.here hx rfl (hb hby at_94) rfl ?_
    show Steps p.tables e below (T10.setTop (mkF m 95 #[.val (.long sq), .second, .val (.int ea), .val (.int eb), .val (.int ec), .val (.int cc), .val (.int pp), .val (.int cnt), .val (.int fl), .val (.ref b4), .val (.int j), .unset, .unset, .unset] [(.int (pp ^^^ (3 : Int32))), (.int ec), (.int j), (.ref b4)])) _
    refine XS.iload X10.here hx rfl (hb hby at_95) rfl ?_
    show Steps p.tables e below (T10.setTop (mkF m 97 #[.val (.long sq), .second, .val (.int ea), .val (.int eb), .val (.int ec), .val (.int cc), .val (.int pp), .val (.int cnt), .val (.int fl), .val (.ref b4), .val (.int j), .unset, .unset, .unset] [(.int pp), (.int (pp ^^^ (3 : Int32))), (.int ec), (.int j), (.ref b4)])) _
    refine XS.iconst X10.here hx rfl (hb hby at_97) ?_
    show Steps p.tables e below (T10.setTop (mkF m 98 #[.val (.long sq), .second, .val (.int ea), .val (.int eb), .val (.int ec), .val (.int cc), .val (.int pp), .val (.int cnt), .val (.int fl), .val (.ref b4), .val (.int j), .unset, .unset, .unset] [(.int (5 : Int32)), (.int pp), (.int (pp ^^^ (3 : Int32))), (.int ec), (.int j), (.ref b4)])) _
    refine XS.ixor X10.here hx rfl (hb hby at_98) rfl ?_
    show Steps p.tables e below (T10.setTop (mkF m 99 #[.val (.long sq), .second, .val (.int ea), .val (.int eb), .val (.int ec), .val (.int cc), .val (.int pp), .val (.int cnt), .val (.int fl), .val (.ref b4), .val (.int j), .unset, .unset, .unset] [(.int (pp ^^^ (5 : Int32))), (.int (pp ^^^ (3 : Int32))), (.int ec), (.int j), (.ref b4)])) _
    refine XS.iload X10.here hx rfl (hb hby at_99) rfl ?_
    show Steps p.tables e below (T10.setTop (mkF m 101 #[.val (.long sq), .second, .val (.int ea), .val (.int eb), .val (.int ec), .val (.int cc), .val (.int pp), .val (.int cnt), .val (.int fl), .val (.ref b4), .val (.int j), .unset, .unset, .unset] [(.int pp), (.int (pp ^^^ (5 : Int32))), (.int (pp ^^^ (3 : Int32))), (.int ec), (.int j), (.ref b4)])) _
    refine XS.bipush X10.here hx rfl (hb hby at_101) ?_
    show Steps p.tables e below (T10.setTop (mkF m 103 #[.val (.long sq), .second, .val (.int ea), .val (.int eb), .val (.int ec), .val (.int cc), .val (.int pp), .val (.int cnt), .val (.int fl), .val (.ref b4), .val (.int j), .unset, .unset, .unset] [(.int (6 : Int32)), (.int pp), (.int (pp ^^^ (5 : Int32))), (.int (pp ^^^ (3 : Int32))), (.int ec), (.int j), (.ref b4)])) _
    refine XS.ixor X10.here hx rfl (hb hby at_103) rfl ?_
    show Steps p.tables e below (T10.setTop (mkF m 104 #[.val (.long sq), .second, .val (.int ea), .val (.int eb), .val (.int ec), .val (.int cc), .val (.int pp), .val (.int cnt), .val (.int fl), .val (.ref b4), .val (.int j), .unset, .unset, .unset] [(.int (pp ^^^ (6 : Int32))), (.int (pp ^^^ (5 : Int32))), (.int (pp ^^^ (3 : Int32))), (.int ec), (.int j), (.ref b4)])) _
    refine st13.trans ?_
    exact k
  have pre15 : ∀ t, Steps p.tables e below (T13.setTop (mkF m 110 #[.val (.long sq), .second, .val (.int ea), .val (.int eb), .val (.int ec), .val (.int cc), .val (.int pp), .val (.int cnt), .val (.int fl), .val (.ref b4), .val (.int j), .unset, .unset, .unset] [(.int (3 : Int32)), (.int cnt)])) t → Steps p.tables e below (s₁.setTop (entryFrame m #[(.long sq), (.int ea), (.int eb), (.int ec), (.int cc), (.int pp)] maxLocals)) t := by
    intro t k
    refine pre14 t ?_
    show Steps p.tables e below (T13.setTop (mkF m 107 #[.val (.long sq), .second, .val (.int ea), .val (.int eb), .val (.int ec), .val (.int cc), .val (.int pp), .val (.int cnt), .val (.int fl), .val (.ref b4), .val (.int j), .unset, .unset, .unset] [])) _
    refine XS.iload X13.here hx rfl (hb hby at_107) rfl ?_
    show Steps p.tables e below (T13.setTop (mkF m 109 #[.val (.long sq), .second, .val (.int ea), .val (.int eb), .val (.int ec), .val (.int cc), .val (.int pp), .val (.int cnt), .val (.int fl), .val (.ref b4), .val (.int j), .unset, .unset, .unset] [(.int cnt)])) _
    refine XS.iconst X13.here hx rfl (hb hby at_109) ?_
    exact k
  obtain ⟨x2, hs16, pre16⟩ : ∃ (x2 : Int64), ((x2 = ec.toInt64 ∧ cnt = (3 : Int32)) ∨ (x2 = eb.toInt64 ∧ ¬ cnt = (3 : Int32))) ∧ ∀ t, Steps p.tables e below (T13.setTop (mkF m 121 #[.val (.long sq), .second, .val (.int ea), .val (.int eb), .val (.int ec), .val (.int cc), .val (.int pp), .val (.int cnt), .val (.int fl), .val (.ref b4), .val (.int j), .unset, .unset, .unset] [(.long x2)])) t → Steps p.tables e below (s₁.setTop (entryFrame m #[(.long sq), (.int ea), (.int eb), (.int ec), (.int cc), (.int pp)] maxLocals)) t := by
    by_cases c110 : cnt = (3 : Int32)
    · refine ⟨ec.toInt64, Or.inl ⟨rfl, c110⟩, fun t k => pre15 t ?_⟩
      show Steps p.tables e below (T13.setTop (mkF m 110 #[.val (.long sq), .second, .val (.int ea), .val (.int eb), .val (.int ec), .val (.int cc), .val (.int pp), .val (.int cnt), .val (.int fl), .val (.ref b4), .val (.int j), .unset, .unset, .unset] [(.int (3 : Int32)), (.int cnt)])) _
      refine XS.icmpNo X13.here hx rfl (hb hby at_110) rfl (teq c110).2 ?_
      show Steps p.tables e below (T13.setTop (mkF m 113 #[.val (.long sq), .second, .val (.int ea), .val (.int eb), .val (.int ec), .val (.int cc), .val (.int pp), .val (.int cnt), .val (.int fl), .val (.ref b4), .val (.int j), .unset, .unset, .unset] [])) _
      refine XS.iload X13.here hx rfl (hb hby at_113) rfl ?_
      show Steps p.tables e below (T13.setTop (mkF m 115 #[.val (.long sq), .second, .val (.int ea), .val (.int eb), .val (.int ec), .val (.int cc), .val (.int pp), .val (.int cnt), .val (.int fl), .val (.ref b4), .val (.int j), .unset, .unset, .unset] [(.int ec)])) _
      refine XS.i2l X13.here hx rfl (hb hby at_115) rfl ?_
      show Steps p.tables e below (T13.setTop (mkF m 116 #[.val (.long sq), .second, .val (.int ea), .val (.int eb), .val (.int ec), .val (.int cc), .val (.int pp), .val (.int cnt), .val (.int fl), .val (.ref b4), .val (.int j), .unset, .unset, .unset] [(.long (ec.toInt64))])) _
      refine XS.goto X13.here hx rfl (pc0 := 116) (pc' := 121) rfl (hb hby at_116) (by decide) (by decide) ?_
      exact k
    · refine ⟨eb.toInt64, Or.inr ⟨rfl, c110⟩, fun t k => pre15 t ?_⟩
      show Steps p.tables e below (T13.setTop (mkF m 110 #[.val (.long sq), .second, .val (.int ea), .val (.int eb), .val (.int ec), .val (.int cc), .val (.int pp), .val (.int cnt), .val (.int fl), .val (.ref b4), .val (.int j), .unset, .unset, .unset] [(.int (3 : Int32)), (.int cnt)])) _
      refine XS.icmpYes X13.here hx rfl (pc0 := 110) (pc' := 119) rfl (hb hby at_110) rfl (feq c110).2 (by decide) (by decide) ?_
      show Steps p.tables e below (T13.setTop (mkF m 119 #[.val (.long sq), .second, .val (.int ea), .val (.int eb), .val (.int ec), .val (.int cc), .val (.int pp), .val (.int cnt), .val (.int fl), .val (.ref b4), .val (.int j), .unset, .unset, .unset] [])) _
      refine XS.iloadN X13.here hx rfl (hb hby at_119) rfl ?_
      show Steps p.tables e below (T13.setTop (mkF m 120 #[.val (.long sq), .second, .val (.int ea), .val (.int eb), .val (.int ec), .val (.int cc), .val (.int pp), .val (.int cnt), .val (.int fl), .val (.ref b4), .val (.int j), .unset, .unset, .unset] [(.int eb)])) _
      refine XS.i2l X13.here hx rfl (hb hby at_120) rfl ?_
      exact k
  obtain ⟨cq17, kq17, q17a, q17b, q17c⟩ := isOf hZ rfl Pe.1
  obtain ⟨_, _, ⟨T17, L17, k17, n17⟩, -, X17, ⟨Lc17, hQ17, l17, y17, z17⟩, st17⟩ := X13.virtualBack hx (y := (⟨"com/example/vilkarsbok/vilkarsbok/PeriodDays", "start", "(I)J"⟩ : MethodName)) (z := (⟨"com/example/vilkarsbok/vilkarsbok/PeriodDays", "start", "(I)J"⟩ : MethodName)) hown (mvT hZ (hw _ (List.mem_of_getElem? (i := 34) rfl))) (mvT hZ (hw _ (List.mem_of_getElem? (i := 35) rfl))) (notFace_of_selects (args := #[]) (mvT hZ (hw _ (List.mem_of_getElem? (i := 37) rfl)))) (mvT hZ (hw _ (List.mem_of_getElem? (i := 37) rfl))) (mvT hZ (hw _ (List.mem_of_getElem? (i := 36) rfl))) (by decide) (backOf (W := 0) (rmG l Z a0 hw [] b4 (0 : Int32) NN (own_upd (own_upd (own_upd ff ((0 : Int32)).toNatClampNeg ea) ((1 : Int32)).toNatClampNeg eb) (j).toNatClampNeg ec) sq cnt (nar .boolean fl) T13.heap n0 Ze Pe ⟨by decide, by simp only [Int32.reduceToInt]; omega⟩) hZ (hw _ (List.mem_of_getElem? (i := 38) rfl)) (hw _ (List.mem_of_getElem? (i := 2) rfl)) (by decide) (by decide)) q17a q17c (g := (mkF m 126 #[.val (.long sq), .second, .val (.int ea), .val (.int eb), .val (.int ec), .val (.int cc), .val (.int pp), .val (.int cnt), .val (.int fl), .val (.ref b4), .val (.int j), .val (.long x2), .second, .unset] [(.int (0 : Int32)), (.ref b4)])) rfl (by rw [hml]; rfl) (Steps.refl _) (argsL := [(.int (0 : Int32))]) (rest := []) (lenOf pd_4 rfl) rfl (by show 2 * 0 + _ ≤ _; exact Nat.le_of_eq rfl) (hb hby at_126) (fun _ _ => ⟨rfl, rfl, (by decide : 9 + 0 ≤ _), (by decide : 783 + 0 ≤ _)⟩)
  dsimp only [Pt.U, Pt.locs, Pt.cells, Pt.slots] at X17 l17 y17 z17 st17 hQ17
  subst l17 y17 z17
  obtain ⟨⟨ra, rfl, ura, vra⟩, N17q, e17⟩ := hQ17
  have N17 := Fr.app N13 N17q
  have pre18 : ∀ t, Steps p.tables e below (T17.setTop (mkF m 146 #[.val (.long sq), .second, .val (.int ea), .val (.int eb), .val (.int ec), .val (.int cc), .val (.int pp), .val (.int cnt), .val (.int fl), .val (.ref b4), .val (.int j), .val (.long x2), .second, .val (.int (1 : Int32))] [])) t → Steps p.tables e below (s₁.setTop (entryFrame m #[(.long sq), (.int ea), (.int eb), (.int ec), (.int cc), (.int pp)] maxLocals)) t := by
    intro t k
    refine pre16 t ?_
    show Steps p.tables e below (T13.setTop (mkF m 121 #[.val (.long sq), .second, .val (.int ea), .val (.int eb), .val (.int ec), .val (.int cc), .val (.int pp), .val (.int cnt), .val (.int fl), .val (.ref b4), .val (.int j), .unset, .unset, .unset] [(.long x2)])) _
    refine XS.lstore X13.here hx rfl (hb hby at_121) rfl (l' := #[.val (.long sq), .second, .val (.int ea), .val (.int eb), .val (.int ec), .val (.int cc), .val (.int pp), .val (.int cnt), .val (.int fl), .val (.ref b4), .val (.int j), .val (.long x2), .second, .unset]) rfl ?_
    show Steps p.tables e below (T13.setTop (mkF m 123 #[.val (.long sq), .second, .val (.int ea), .val (.int eb), .val (.int ec), .val (.int cc), .val (.int pp), .val (.int cnt), .val (.int fl), .val (.ref b4), .val (.int j), .val (.long x2), .second, .unset] [])) _
    refine XS.aload X13.here hx rfl (hb hby at_123) rfl rfl ?_
    show Steps p.tables e below (T13.setTop (mkF m 125 #[.val (.long sq), .second, .val (.int ea), .val (.int eb), .val (.int ec), .val (.int cc), .val (.int pp), .val (.int cnt), .val (.int fl), .val (.ref b4), .val (.int j), .val (.long x2), .second, .unset] [(.ref b4)])) _
    refine XS.iconst X13.here hx rfl (hb hby at_125) ?_
    show Steps p.tables e below (T13.setTop (mkF m 126 #[.val (.long sq), .second, .val (.int ea), .val (.int eb), .val (.int ec), .val (.int cc), .val (.int pp), .val (.int cnt), .val (.int fl), .val (.ref b4), .val (.int j), .val (.long x2), .second, .unset] [(.int (0 : Int32)), (.ref b4)])) _
    refine st17.trans ?_
    show Steps p.tables e below (T17.setTop (mkF m 129 #[.val (.long sq), .second, .val (.int ea), .val (.int eb), .val (.int ec), .val (.int cc), .val (.int pp), .val (.int cnt), .val (.int fl), .val (.ref b4), .val (.int j), .val (.long x2), .second, .unset] [(.long ra)])) _
    refine XS.lloadN X17.here hx rfl (hb hby at_129) rfl ?_
    show Steps p.tables e below (T17.setTop (mkF m 130 #[.val (.long sq), .second, .val (.int ea), .val (.int eb), .val (.int ec), .val (.int cc), .val (.int pp), .val (.int cnt), .val (.int fl), .val (.ref b4), .val (.int j), .val (.long x2), .second, .unset] [(.long sq), (.long ra)])) _
    refine XS.lcmp X17.here hx rfl (hb hby at_130) rfl ?_
    show Steps p.tables e below (T17.setTop (mkF m 131 #[.val (.long sq), .second, .val (.int ea), .val (.int eb), .val (.int ec), .val (.int cc), .val (.int pp), .val (.int cnt), .val (.int fl), .val (.ref b4), .val (.int j), .val (.long x2), .second, .unset] [(.int (lcmpW ra sq))])) _
    refine XS.ifNo X17.here hx rfl (hb hby at_131) rfl ((if0 _ _).trans (teq ((lw_eq _ _).mpr (ura rfl))).2) ?_
    show Steps p.tables e below (T17.setTop (mkF m 134 #[.val (.long sq), .second, .val (.int ea), .val (.int eb), .val (.int ec), .val (.int cc), .val (.int pp), .val (.int cnt), .val (.int fl), .val (.ref b4), .val (.int j), .val (.long x2), .second, .unset] [])) _
    refine XS.iconst X17.here hx rfl (hb hby at_134) ?_
    show Steps p.tables e below (T17.setTop (mkF m 135 #[.val (.long sq), .second, .val (.int ea), .val (.int eb), .val (.int ec), .val (.int cc), .val (.int pp), .val (.int cnt), .val (.int fl), .val (.ref b4), .val (.int j), .val (.long x2), .second, .unset] [(.int (1 : Int32))])) _
    refine XS.goto X17.here hx rfl (pc0 := 135) (pc' := 139) rfl (hb hby at_135) (by decide) (by decide) ?_
    show Steps p.tables e below (T17.setTop (mkF m 139 #[.val (.long sq), .second, .val (.int ea), .val (.int eb), .val (.int ec), .val (.int cc), .val (.int pp), .val (.int cnt), .val (.int fl), .val (.ref b4), .val (.int j), .val (.long x2), .second, .unset] [(.int (1 : Int32))])) _
    refine XS.istore X17.here hx rfl (hb hby at_139) rfl (l' := #[.val (.long sq), .second, .val (.int ea), .val (.int eb), .val (.int ec), .val (.int cc), .val (.int pp), .val (.int cnt), .val (.int fl), .val (.ref b4), .val (.int j), .val (.long x2), .second, .val (.int (1 : Int32))]) rfl ?_
    show Steps p.tables e below (T17.setTop (mkF m 141 #[.val (.long sq), .second, .val (.int ea), .val (.int eb), .val (.int ec), .val (.int cc), .val (.int pp), .val (.int cnt), .val (.int fl), .val (.ref b4), .val (.int j), .val (.long x2), .second, .val (.int (1 : Int32))] [])) _
    refine XS.iload X17.here hx rfl (hb hby at_141) rfl ?_
    show Steps p.tables e below (T17.setTop (mkF m 143 #[.val (.long sq), .second, .val (.int ea), .val (.int eb), .val (.int ec), .val (.int cc), .val (.int pp), .val (.int cnt), .val (.int fl), .val (.ref b4), .val (.int j), .val (.long x2), .second, .val (.int (1 : Int32))] [(.int (1 : Int32))])) _
    refine XS.ifNo X17.here hx rfl (hb hby at_143) rfl ((if0 _ _).trans (feq (by decide)).1) ?_
    exact k
  obtain ⟨cq19, kq19, q19a, q19b, q19c⟩ := isOf hZ e17 Pe.1
  obtain ⟨_, _, ⟨T19, L19, k19, n19⟩, -, X19, ⟨Lc19, hQ19, l19, y19, z19⟩, st19⟩ := X17.virtualBack hx (y := (⟨"com/example/vilkarsbok/vilkarsbok/PeriodDays", "start", "(I)J"⟩ : MethodName)) (z := (⟨"com/example/vilkarsbok/vilkarsbok/PeriodDays", "start", "(I)J"⟩ : MethodName)) hown (mvT hZ (hw _ (List.mem_of_getElem? (i := 34) rfl))) (mvT hZ (hw _ (List.mem_of_getElem? (i := 35) rfl))) (notFace_of_selects (args := #[]) (mvT hZ (hw _ (List.mem_of_getElem? (i := 37) rfl)))) (mvT hZ (hw _ (List.mem_of_getElem? (i := 37) rfl))) (mvT hZ (hw _ (List.mem_of_getElem? (i := 36) rfl))) (by decide) (backOf (W := 0) (rmG l Z a0 hw [] b4 (1 : Int32) NN (own_upd (own_upd (own_upd ff ((0 : Int32)).toNatClampNeg ea) ((1 : Int32)).toNatClampNeg eb) (j).toNatClampNeg ec) sq cnt (nar .boolean fl) T13.heap n0 Ze Pe ⟨by decide, by simp only [Int32.reduceToInt]; omega⟩) hZ (hw _ (List.mem_of_getElem? (i := 38) rfl)) (hw _ (List.mem_of_getElem? (i := 2) rfl)) (by decide) (by decide)) q19a q19c (g := (mkF m 149 #[.val (.long sq), .second, .val (.int ea), .val (.int eb), .val (.int ec), .val (.int cc), .val (.int pp), .val (.int cnt), .val (.int fl), .val (.ref b4), .val (.int j), .val (.long x2), .second, .val (.int (1 : Int32))] [(.int (1 : Int32)), (.ref b4)])) rfl (by rw [hml]; rfl) (Steps.refl _) (argsL := [(.int (1 : Int32))]) (rest := []) (lenOf pd_4 rfl) rfl (by show 2 * 0 + _ ≤ _; exact Nat.le_of_eq rfl) (hb hby at_149) (fun _ _ => ⟨rfl, e17, (by decide : 9 + 0 ≤ _), (by decide : 783 + 0 ≤ _)⟩)
  dsimp only [Pt.U, Pt.locs, Pt.cells, Pt.slots] at X19 l19 y19 z19 st19 hQ19
  subst l19 y19 z19
  obtain ⟨⟨rb, rfl, urb, vrb⟩, N19q, e19⟩ := hQ19
  have N19 := Fr.app N17 N19q
  have pre20 : ∀ t, Steps p.tables e below (T19.setTop (mkF m 170 #[.val (.long sq), .second, .val (.int ea), .val (.int eb), .val (.int ec), .val (.int cc), .val (.int pp), .val (.int cnt), .val (.int fl), .val (.ref b4), .val (.int j), .val (.long x2), .second, .val (.int (1 : Int32))] [])) t → Steps p.tables e below (s₁.setTop (entryFrame m #[(.long sq), (.int ea), (.int eb), (.int ec), (.int cc), (.int pp)] maxLocals)) t := by
    intro t k
    refine pre18 t ?_
    show Steps p.tables e below (T17.setTop (mkF m 146 #[.val (.long sq), .second, .val (.int ea), .val (.int eb), .val (.int ec), .val (.int cc), .val (.int pp), .val (.int cnt), .val (.int fl), .val (.ref b4), .val (.int j), .val (.long x2), .second, .val (.int (1 : Int32))] [])) _
    refine XS.aload X17.here hx rfl (hb hby at_146) rfl rfl ?_
    show Steps p.tables e below (T17.setTop (mkF m 148 #[.val (.long sq), .second, .val (.int ea), .val (.int eb), .val (.int ec), .val (.int cc), .val (.int pp), .val (.int cnt), .val (.int fl), .val (.ref b4), .val (.int j), .val (.long x2), .second, .val (.int (1 : Int32))] [(.ref b4)])) _
    refine XS.iconst X17.here hx rfl (hb hby at_148) ?_
    show Steps p.tables e below (T17.setTop (mkF m 149 #[.val (.long sq), .second, .val (.int ea), .val (.int eb), .val (.int ec), .val (.int cc), .val (.int pp), .val (.int cnt), .val (.int fl), .val (.ref b4), .val (.int j), .val (.long x2), .second, .val (.int (1 : Int32))] [(.int (1 : Int32)), (.ref b4)])) _
    refine st19.trans ?_
    show Steps p.tables e below (T19.setTop (mkF m 152 #[.val (.long sq), .second, .val (.int ea), .val (.int eb), .val (.int ec), .val (.int cc), .val (.int pp), .val (.int cnt), .val (.int fl), .val (.ref b4), .val (.int j), .val (.long x2), .second, .val (.int (1 : Int32))] [(.long rb)])) _
    refine XS.iloadN X19.here hx rfl (hb hby at_152) rfl ?_
    show Steps p.tables e below (T19.setTop (mkF m 153 #[.val (.long sq), .second, .val (.int ea), .val (.int eb), .val (.int ec), .val (.int cc), .val (.int pp), .val (.int cnt), .val (.int fl), .val (.ref b4), .val (.int j), .val (.long x2), .second, .val (.int (1 : Int32))] [(.int ea), (.long rb)])) _
    refine XS.i2l X19.here hx rfl (hb hby at_153) rfl ?_
    show Steps p.tables e below (T19.setTop (mkF m 154 #[.val (.long sq), .second, .val (.int ea), .val (.int eb), .val (.int ec), .val (.int cc), .val (.int pp), .val (.int cnt), .val (.int fl), .val (.ref b4), .val (.int j), .val (.long x2), .second, .val (.int (1 : Int32))] [(.long (ea.toInt64)), (.long rb)])) _
    refine XS.lcmp X19.here hx rfl (hb hby at_154) rfl ?_
    show Steps p.tables e below (T19.setTop (mkF m 155 #[.val (.long sq), .second, .val (.int ea), .val (.int eb), .val (.int ec), .val (.int cc), .val (.int pp), .val (.int cnt), .val (.int fl), .val (.ref b4), .val (.int j), .val (.long x2), .second, .val (.int (1 : Int32))] [(.int (lcmpW rb (ea.toInt64)))])) _
    refine XS.ifNo X19.here hx rfl (hb hby at_155) rfl ((if0 _ _).trans (teq ((lw_eq _ _).mpr ((vrb (by decide)).trans (congrArg Int32.toInt64 (own_f0 ff ea eb ec (jn := j.toNatClampNeg) (by omega)))))).2) ?_
    show Steps p.tables e below (T19.setTop (mkF m 158 #[.val (.long sq), .second, .val (.int ea), .val (.int eb), .val (.int ec), .val (.int cc), .val (.int pp), .val (.int cnt), .val (.int fl), .val (.ref b4), .val (.int j), .val (.long x2), .second, .val (.int (1 : Int32))] [])) _
    refine XS.iconst X19.here hx rfl (hb hby at_158) ?_
    show Steps p.tables e below (T19.setTop (mkF m 159 #[.val (.long sq), .second, .val (.int ea), .val (.int eb), .val (.int ec), .val (.int cc), .val (.int pp), .val (.int cnt), .val (.int fl), .val (.ref b4), .val (.int j), .val (.long x2), .second, .val (.int (1 : Int32))] [(.int (1 : Int32))])) _
    refine XS.goto X19.here hx rfl (pc0 := 159) (pc' := 163) rfl (hb hby at_159) (by decide) (by decide) ?_
    show Steps p.tables e below (T19.setTop (mkF m 163 #[.val (.long sq), .second, .val (.int ea), .val (.int eb), .val (.int ec), .val (.int cc), .val (.int pp), .val (.int cnt), .val (.int fl), .val (.ref b4), .val (.int j), .val (.long x2), .second, .val (.int (1 : Int32))] [(.int (1 : Int32))])) _
    refine XS.istore X19.here hx rfl (hb hby at_163) rfl (l' := #[.val (.long sq), .second, .val (.int ea), .val (.int eb), .val (.int ec), .val (.int cc), .val (.int pp), .val (.int cnt), .val (.int fl), .val (.ref b4), .val (.int j), .val (.long x2), .second, .val (.int (1 : Int32))]) rfl ?_
    show Steps p.tables e below (T19.setTop (mkF m 165 #[.val (.long sq), .second, .val (.int ea), .val (.int eb), .val (.int ec), .val (.int cc), .val (.int pp), .val (.int cnt), .val (.int fl), .val (.ref b4), .val (.int j), .val (.long x2), .second, .val (.int (1 : Int32))] [])) _
    refine XS.iload X19.here hx rfl (hb hby at_165) rfl ?_
    show Steps p.tables e below (T19.setTop (mkF m 167 #[.val (.long sq), .second, .val (.int ea), .val (.int eb), .val (.int ec), .val (.int cc), .val (.int pp), .val (.int cnt), .val (.int fl), .val (.ref b4), .val (.int j), .val (.long x2), .second, .val (.int (1 : Int32))] [(.int (1 : Int32))])) _
    refine XS.ifNo X19.here hx rfl (hb hby at_167) rfl ((if0 _ _).trans (feq (by decide)).1) ?_
    exact k
  obtain ⟨cq21, kq21, q21a, q21b, q21c⟩ := isOf hZ e19 Pe.1
  obtain ⟨_, _, ⟨T21, L21, k21, n21⟩, -, X21, ⟨Lc21, hQ21, l21, y21, z21⟩, st21⟩ := X19.virtualBack hx (y := (⟨"com/example/vilkarsbok/vilkarsbok/PeriodDays", "start", "(I)J"⟩ : MethodName)) (z := (⟨"com/example/vilkarsbok/vilkarsbok/PeriodDays", "start", "(I)J"⟩ : MethodName)) hown (mvT hZ (hw _ (List.mem_of_getElem? (i := 34) rfl))) (mvT hZ (hw _ (List.mem_of_getElem? (i := 35) rfl))) (notFace_of_selects (args := #[]) (mvT hZ (hw _ (List.mem_of_getElem? (i := 37) rfl)))) (mvT hZ (hw _ (List.mem_of_getElem? (i := 37) rfl))) (mvT hZ (hw _ (List.mem_of_getElem? (i := 36) rfl))) (by decide) (backOf (W := 0) (rmG l Z a0 hw [] b4 (2 : Int32) NN (own_upd (own_upd (own_upd ff ((0 : Int32)).toNatClampNeg ea) ((1 : Int32)).toNatClampNeg eb) (j).toNatClampNeg ec) sq cnt (nar .boolean fl) T13.heap n0 Ze Pe ⟨by decide, by simp only [Int32.reduceToInt]; omega⟩) hZ (hw _ (List.mem_of_getElem? (i := 38) rfl)) (hw _ (List.mem_of_getElem? (i := 2) rfl)) (by decide) (by decide)) q21a q21c (g := (mkF m 173 #[.val (.long sq), .second, .val (.int ea), .val (.int eb), .val (.int ec), .val (.int cc), .val (.int pp), .val (.int cnt), .val (.int fl), .val (.ref b4), .val (.int j), .val (.long x2), .second, .val (.int (1 : Int32))] [(.int (2 : Int32)), (.ref b4)])) rfl (by rw [hml]; rfl) (Steps.refl _) (argsL := [(.int (2 : Int32))]) (rest := []) (lenOf pd_4 rfl) rfl (by show 2 * 0 + _ ≤ _; exact Nat.le_of_eq rfl) (hb hby at_173) (fun _ _ => ⟨rfl, e19, (by decide : 9 + 0 ≤ _), (by decide : 783 + 0 ≤ _)⟩)
  dsimp only [Pt.U, Pt.locs, Pt.cells, Pt.slots] at X21 l21 y21 z21 st21 hQ21
  subst l21 y21 z21
  obtain ⟨⟨rc, rfl, urc, vrc⟩, N21q, e21⟩ := hQ21
  have N21 := Fr.app N19 N21q
  have pre22 : ∀ t, Steps p.tables e below (T21.setTop (mkF m 194 #[.val (.long sq), .second, .val (.int ea), .val (.int eb), .val (.int ec), .val (.int cc), .val (.int pp), .val (.int cnt), .val (.int fl), .val (.ref b4), .val (.int j), .val (.long x2), .second, .val (.int (1 : Int32))] [])) t → Steps p.tables e below (s₁.setTop (entryFrame m #[(.long sq), (.int ea), (.int eb), (.int ec), (.int cc), (.int pp)] maxLocals)) t := by
    intro t k
    refine pre20 t ?_
    show Steps p.tables e below (T19.setTop (mkF m 170 #[.val (.long sq), .second, .val (.int ea), .val (.int eb), .val (.int ec), .val (.int cc), .val (.int pp), .val (.int cnt), .val (.int fl), .val (.ref b4), .val (.int j), .val (.long x2), .second, .val (.int (1 : Int32))] [])) _
    refine XS.aload X19.here hx rfl (hb hby at_170) rfl rfl ?_
    show Steps p.tables e below (T19.setTop (mkF m 172 #[.val (.long sq), .second, .val (.int ea), .val (.int eb), .val (.int ec), .val (.int cc), .val (.int pp), .val (.int cnt), .val (.int fl), .val (.ref b4), .val (.int j), .val (.long x2), .second, .val (.int (1 : Int32))] [(.ref b4)])) _
    refine XS.iconst X19.here hx rfl (hb hby at_172) ?_
    show Steps p.tables e below (T19.setTop (mkF m 173 #[.val (.long sq), .second, .val (.int ea), .val (.int eb), .val (.int ec), .val (.int cc), .val (.int pp), .val (.int cnt), .val (.int fl), .val (.ref b4), .val (.int j), .val (.long x2), .second, .val (.int (1 : Int32))] [(.int (2 : Int32)), (.ref b4)])) _
    refine st21.trans ?_
    show Steps p.tables e below (T21.setTop (mkF m 176 #[.val (.long sq), .second, .val (.int ea), .val (.int eb), .val (.int ec), .val (.int cc), .val (.int pp), .val (.int cnt), .val (.int fl), .val (.ref b4), .val (.int j), .val (.long x2), .second, .val (.int (1 : Int32))] [(.long rc)])) _
    refine XS.lload X21.here hx rfl (hb hby at_176) rfl ?_
    show Steps p.tables e below (T21.setTop (mkF m 178 #[.val (.long sq), .second, .val (.int ea), .val (.int eb), .val (.int ec), .val (.int cc), .val (.int pp), .val (.int cnt), .val (.int fl), .val (.ref b4), .val (.int j), .val (.long x2), .second, .val (.int (1 : Int32))] [(.long x2), (.long rc)])) _
    refine XS.lcmp X21.here hx rfl (hb hby at_178) rfl ?_
    show Steps p.tables e below (T21.setTop (mkF m 179 #[.val (.long sq), .second, .val (.int ea), .val (.int eb), .val (.int ec), .val (.int cc), .val (.int pp), .val (.int cnt), .val (.int fl), .val (.ref b4), .val (.int j), .val (.long x2), .second, .val (.int (1 : Int32))] [(.int (lcmpW rc x2))])) _
    refine XS.ifNo X21.here hx rfl (hb hby at_179) rfl ((if0 _ _).trans (teq ((lw_eq _ _).mpr ((vrc (by decide)).trans (own_f1 ff ea eb ec (jn := j.toNatClampNeg) j2 hs16)))).2) ?_
    show Steps p.tables e below (T21.setTop (mkF m 182 #[.val (.long sq), .second, .val (.int ea), .val (.int eb), .val (.int ec), .val (.int cc), .val (.int pp), .val (.int cnt), .val (.int fl), .val (.ref b4), .val (.int j), .val (.long x2), .second, .val (.int (1 : Int32))] [])) _
    refine XS.iconst X21.here hx rfl (hb hby at_182) ?_
    show Steps p.tables e below (T21.setTop (mkF m 183 #[.val (.long sq), .second, .val (.int ea), .val (.int eb), .val (.int ec), .val (.int cc), .val (.int pp), .val (.int cnt), .val (.int fl), .val (.ref b4), .val (.int j), .val (.long x2), .second, .val (.int (1 : Int32))] [(.int (1 : Int32))])) _
    refine XS.goto X21.here hx rfl (pc0 := 183) (pc' := 187) rfl (hb hby at_183) (by decide) (by decide) ?_
    show Steps p.tables e below (T21.setTop (mkF m 187 #[.val (.long sq), .second, .val (.int ea), .val (.int eb), .val (.int ec), .val (.int cc), .val (.int pp), .val (.int cnt), .val (.int fl), .val (.ref b4), .val (.int j), .val (.long x2), .second, .val (.int (1 : Int32))] [(.int (1 : Int32))])) _
    refine XS.istore X21.here hx rfl (hb hby at_187) rfl (l' := #[.val (.long sq), .second, .val (.int ea), .val (.int eb), .val (.int ec), .val (.int cc), .val (.int pp), .val (.int cnt), .val (.int fl), .val (.ref b4), .val (.int j), .val (.long x2), .second, .val (.int (1 : Int32))]) rfl ?_
    show Steps p.tables e below (T21.setTop (mkF m 189 #[.val (.long sq), .second, .val (.int ea), .val (.int eb), .val (.int ec), .val (.int cc), .val (.int pp), .val (.int cnt), .val (.int fl), .val (.ref b4), .val (.int j), .val (.long x2), .second, .val (.int (1 : Int32))] [])) _
    refine XS.iload X21.here hx rfl (hb hby at_189) rfl ?_
    show Steps p.tables e below (T21.setTop (mkF m 191 #[.val (.long sq), .second, .val (.int ea), .val (.int eb), .val (.int ec), .val (.int cc), .val (.int pp), .val (.int cnt), .val (.int fl), .val (.ref b4), .val (.int j), .val (.long x2), .second, .val (.int (1 : Int32))] [(.int (1 : Int32))])) _
    refine XS.ifNo X21.here hx rfl (hb hby at_191) rfl ((if0 _ _).trans (feq (by decide)).1) ?_
    exact k
  obtain ⟨cq23, kq23, q23a, q23b, q23c⟩ := isOf hZ e21 Pe.1
  obtain ⟨_, _, ⟨T23, L23, k23, n23⟩, -, X23, ⟨Lc23, hQ23, l23, y23, z23⟩, st23⟩ := X21.virtualBack hx (y := (⟨"com/example/vilkarsbok/vilkarsbok/PeriodDays", "start", "(I)J"⟩ : MethodName)) (z := (⟨"com/example/vilkarsbok/vilkarsbok/PeriodDays", "start", "(I)J"⟩ : MethodName)) hown (mvT hZ (hw _ (List.mem_of_getElem? (i := 34) rfl))) (mvT hZ (hw _ (List.mem_of_getElem? (i := 35) rfl))) (notFace_of_selects (args := #[]) (mvT hZ (hw _ (List.mem_of_getElem? (i := 37) rfl)))) (mvT hZ (hw _ (List.mem_of_getElem? (i := 37) rfl))) (mvT hZ (hw _ (List.mem_of_getElem? (i := 36) rfl))) (by decide) (backOf (W := 0) (rmG l Z a0 hw [] b4 (cnt - (1 : Int32)) NN (own_upd (own_upd (own_upd ff ((0 : Int32)).toNatClampNeg ea) ((1 : Int32)).toNatClampNeg eb) (j).toNatClampNeg ec) sq cnt (nar .boolean fl) T13.heap n0 Ze Pe ⟨by omega, by omega⟩) hZ (hw _ (List.mem_of_getElem? (i := 38) rfl)) (hw _ (List.mem_of_getElem? (i := 2) rfl)) (by decide) (by decide)) q23a q23c (g := (mkF m 200 #[.val (.long sq), .second, .val (.int ea), .val (.int eb), .val (.int ec), .val (.int cc), .val (.int pp), .val (.int cnt), .val (.int fl), .val (.ref b4), .val (.int j), .val (.long x2), .second, .val (.int (1 : Int32))] [(.int (cnt - (1 : Int32))), (.ref b4)])) rfl (by rw [hml]; rfl) (Steps.refl _) (argsL := [(.int (cnt - (1 : Int32)))]) (rest := []) (lenOf pd_4 rfl) rfl (by show 2 * 0 + _ ≤ _; exact Nat.le_of_eq rfl) (hb hby at_200) (fun _ _ => ⟨rfl, e21, (by decide : 9 + 0 ≤ _), (by decide : 783 + 0 ≤ _)⟩)
  dsimp only [Pt.U, Pt.locs, Pt.cells, Pt.slots] at X23 l23 y23 z23 st23 hQ23
  subst l23 y23 z23
  obtain ⟨⟨rd, rfl, urd, vrd⟩, N23q, e23⟩ := hQ23
  have N23 := Fr.app N21 N23q
  have pre24 : ∀ t, Steps p.tables e below (T23.setTop (mkF m 219 #[.val (.long sq), .second, .val (.int ea), .val (.int eb), .val (.int ec), .val (.int cc), .val (.int pp), .val (.int cnt), .val (.int fl), .val (.ref b4), .val (.int j), .val (.long x2), .second, .val (.int (1 : Int32))] [(.int (1 : Int32))])) t → Steps p.tables e below (s₁.setTop (entryFrame m #[(.long sq), (.int ea), (.int eb), (.int ec), (.int cc), (.int pp)] maxLocals)) t := by
    intro t k
    refine pre22 t ?_
    show Steps p.tables e below (T21.setTop (mkF m 194 #[.val (.long sq), .second, .val (.int ea), .val (.int eb), .val (.int ec), .val (.int cc), .val (.int pp), .val (.int cnt), .val (.int fl), .val (.ref b4), .val (.int j), .val (.long x2), .second, .val (.int (1 : Int32))] [])) _
    refine XS.aload X21.here hx rfl (hb hby at_194) rfl rfl ?_
    show Steps p.tables e below (T21.setTop (mkF m 196 #[.val (.long sq), .second, .val (.int ea), .val (.int eb), .val (.int ec), .val (.int cc), .val (.int pp), .val (.int cnt), .val (.int fl), .val (.ref b4), .val (.int j), .val (.long x2), .second, .val (.int (1 : Int32))] [(.ref b4)])) _
    refine XS.iload X21.here hx rfl (hb hby at_196) rfl ?_
    show Steps p.tables e below (T21.setTop (mkF m 198 #[.val (.long sq), .second, .val (.int ea), .val (.int eb), .val (.int ec), .val (.int cc), .val (.int pp), .val (.int cnt), .val (.int fl), .val (.ref b4), .val (.int j), .val (.long x2), .second, .val (.int (1 : Int32))] [(.int cnt), (.ref b4)])) _
    refine XS.iconst X21.here hx rfl (hb hby at_198) ?_
    show Steps p.tables e below (T21.setTop (mkF m 199 #[.val (.long sq), .second, .val (.int ea), .val (.int eb), .val (.int ec), .val (.int cc), .val (.int pp), .val (.int cnt), .val (.int fl), .val (.ref b4), .val (.int j), .val (.long x2), .second, .val (.int (1 : Int32))] [(.int (1 : Int32)), (.int cnt), (.ref b4)])) _
    refine XS.isub X21.here hx rfl (hb hby at_199) rfl ?_
    show Steps p.tables e below (T21.setTop (mkF m 200 #[.val (.long sq), .second, .val (.int ea), .val (.int eb), .val (.int ec), .val (.int cc), .val (.int pp), .val (.int cnt), .val (.int fl), .val (.ref b4), .val (.int j), .val (.long x2), .second, .val (.int (1 : Int32))] [(.int (cnt - (1 : Int32))), (.ref b4)])) _
    refine st23.trans ?_
    show Steps p.tables e below (T23.setTop (mkF m 203 #[.val (.long sq), .second, .val (.int ea), .val (.int eb), .val (.int ec), .val (.int cc), .val (.int pp), .val (.int cnt), .val (.int fl), .val (.ref b4), .val (.int j), .val (.long x2), .second, .val (.int (1 : Int32))] [(.long rd)])) _
    refine XS.iload X23.here hx rfl (hb hby at_203) rfl ?_
    show Steps p.tables e below (T23.setTop (mkF m 205 #[.val (.long sq), .second, .val (.int ea), .val (.int eb), .val (.int ec), .val (.int cc), .val (.int pp), .val (.int cnt), .val (.int fl), .val (.ref b4), .val (.int j), .val (.long x2), .second, .val (.int (1 : Int32))] [(.int ec), (.long rd)])) _
    refine XS.i2l X23.here hx rfl (hb hby at_205) rfl ?_
    show Steps p.tables e below (T23.setTop (mkF m 206 #[.val (.long sq), .second, .val (.int ea), .val (.int eb), .val (.int ec), .val (.int cc), .val (.int pp), .val (.int cnt), .val (.int fl), .val (.ref b4), .val (.int j), .val (.long x2), .second, .val (.int (1 : Int32))] [(.long (ec.toInt64)), (.long rd)])) _
    refine XS.lcmp X23.here hx rfl (hb hby at_206) rfl ?_
    show Steps p.tables e below (T23.setTop (mkF m 207 #[.val (.long sq), .second, .val (.int ea), .val (.int eb), .val (.int ec), .val (.int cc), .val (.int pp), .val (.int cnt), .val (.int fl), .val (.ref b4), .val (.int j), .val (.long x2), .second, .val (.int (1 : Int32))] [(.int (lcmpW rd (ec.toInt64)))])) _
    refine XS.ifNo X23.here hx rfl (hb hby at_207) rfl ((if0 _ _).trans (teq ((lw_eq _ _).mpr ((vrd (fun z => by rw [z] at j4; simp only [Int32.reduceToInt] at j4; omega)).trans (congrArg Int32.toInt64 (by rw [j3]; exact own_upd_same _ _ _))))).2) ?_
    show Steps p.tables e below (T23.setTop (mkF m 210 #[.val (.long sq), .second, .val (.int ea), .val (.int eb), .val (.int ec), .val (.int cc), .val (.int pp), .val (.int cnt), .val (.int fl), .val (.ref b4), .val (.int j), .val (.long x2), .second, .val (.int (1 : Int32))] [])) _
    refine XS.iconst X23.here hx rfl (hb hby at_210) ?_
    show Steps p.tables e below (T23.setTop (mkF m 211 #[.val (.long sq), .second, .val (.int ea), .val (.int eb), .val (.int ec), .val (.int cc), .val (.int pp), .val (.int cnt), .val (.int fl), .val (.ref b4), .val (.int j), .val (.long x2), .second, .val (.int (1 : Int32))] [(.int (1 : Int32))])) _
    refine XS.goto X23.here hx rfl (pc0 := 211) (pc' := 215) rfl (hb hby at_211) (by decide) (by decide) ?_
    show Steps p.tables e below (T23.setTop (mkF m 215 #[.val (.long sq), .second, .val (.int ea), .val (.int eb), .val (.int ec), .val (.int cc), .val (.int pp), .val (.int cnt), .val (.int fl), .val (.ref b4), .val (.int j), .val (.long x2), .second, .val (.int (1 : Int32))] [(.int (1 : Int32))])) _
    refine XS.istore X23.here hx rfl (hb hby at_215) rfl (l' := #[.val (.long sq), .second, .val (.int ea), .val (.int eb), .val (.int ec), .val (.int cc), .val (.int pp), .val (.int cnt), .val (.int fl), .val (.ref b4), .val (.int j), .val (.long x2), .second, .val (.int (1 : Int32))]) rfl ?_
    show Steps p.tables e below (T23.setTop (mkF m 217 #[.val (.long sq), .second, .val (.int ea), .val (.int eb), .val (.int ec), .val (.int cc), .val (.int pp), .val (.int cnt), .val (.int fl), .val (.ref b4), .val (.int j), .val (.long x2), .second, .val (.int (1 : Int32))] [])) _
    refine XS.iload X23.here hx rfl (hb hby at_217) rfl ?_
    exact k
  obtain ⟨fs, hr, hrun, hended, hW, hsame⟩ := X23.leave (v := some (.int (1 : Int32))) (fun h => by rw [Bd.returns] at h; cases h) (hlocks := BodyLoose.notSynchronized Bd)
  refine ⟨_, _, pre24 _ ?_, hrun, hended, _, _, rfl, ?_, ⟨_, rfl⟩, hW, hsame.mono (by decide) (by decide)⟩
  · show Steps p.tables e below (T23.setTop (mkF m 219 #[.val (.long sq), .second, .val (.int ea), .val (.int eb), .val (.int ec), .val (.int cc), .val (.int pp), .val (.int cnt), .val (.int fl), .val (.ref b4), .val (.int j), .val (.long x2), .second, .val (.int (1 : Int32))] [(.int (1 : Int32))])) _
    exact retN X23 hx (t := .boolean) Bd.returns (by simp) (hb hby at_219) hr
  · show Q0 Z sq ea eb ec cc pp h0 n0 _ T23.heap _
    rw [e23]
    exact ⟨rfl, N23⟩
set_option maxRecDepth 65536 in
set_option maxHeartbeats 40000000 in
theorem comes_1 {Post : Tables → Env → Array Value → State → Outcome → State → Prop} (hpost : ∀ tb e args s v u, (limb_1_1.after args s (.returned v) u = true ∧ limb_1_2.after args s (.returned v) u = true ∧ True) → FrameEnd s (.returned v) u (Jvm.fieldLocs frame_1_writes args s ++ Jvm.arrayLocs frame_1_arrays args s ++ Jvm.staticLocs frame_1_statics s) 32 1664 → Post tb e args s (.returned v) u) :
    ArmFor flags0 classFile x code maxLocals ret World_1 tables_1 room_1 Calls_1 rest_1 Pre_1 Post := by
  intro l hfl _ _ p e ha hc hk s m args below hf hA hF happ hP
  obtain ⟨hcalls, hrest, hpre⟩ := hP
  obtain ⟨-, -, -, hnamed, -, -, -, hat⟩ := (Spec.applies_iff hf).mp happ
  obtain ⟨hg, hn⟩ := and_e (Cond.before_iff.mp (show (Jvm.Cond.and given_1 narrow_1).before args s = true from hpre))
  obtain ⟨hcount, r0⟩ := and_e hg
  obtain ⟨v0, r1⟩ := and_e r0
  obtain ⟨v1, r2⟩ := and_e r1
  obtain ⟨v2, r3⟩ := and_e r2
  obtain ⟨v3, r4⟩ := and_e r3
  obtain ⟨v4, r5⟩ := and_e r4
  obtain ⟨w0, w1, w2, w3, w4, w5, rfl⟩ : ∃ w0 w1 w2 w3 w4 w5 : Value, args = #[w0, w1, w2, w3, w4, w5] := by
    have hs : args.size = 6 := by simpa [Cond.value, given_1] using hcount
    obtain ⟨L⟩ := args
    match L, hs with
    | [w0, w1, w2, w3, w4, w5], _ => exact ⟨w0, w1, w2, w3, w4, w5, rfl⟩
  have hw := fun d (hd : d ∈ tables_1) => atoms_spec (ws := Jvm.Cond.code x code maxLocals ret :: tables_1) hat d (List.mem_cons_of_mem _ hd)
  obtain ⟨i0, ei0⟩ := isL_v v0
  obtain rfl : w0 = (.long i0) := Option.some.inj ei0
  obtain ⟨i1, ei1⟩ := is_v v1
  obtain rfl : w1 = (.int i1) := Option.some.inj ei1
  obtain ⟨i2, ei2⟩ := is_v v2
  obtain rfl : w2 = (.int i2) := Option.some.inj ei2
  obtain ⟨i3, ei3⟩ := is_v v3
  obtain rfl : w3 = (.int i3) := Option.some.inj ei3
  obtain ⟨i4, ei4⟩ := is_v v4
  obtain rfl : w4 = (.int i4) := Option.some.inj ei4
  obtain ⟨i5, ei5⟩ := is_v r5
  obtain rfl : w5 = (.int i5) := Option.some.inj ei5
  obtain ⟨n, o, h1, h2, h3, _, L, rfl, ⟨rfl, N⟩, hq⟩ := rm0 l s _ hw tables_1 i0 i1 i2 i3 i4 i5 s.heap s.heap.size (Nat.le_refl _) p e ha hc hk s m _ below hf ((Spec.applies_iff_loose hf).mp happ).1 ⟨rfl, State.Warmed39.refl s, rfl⟩ trivial
  refine ⟨n, _, h1, h2, h3, hpost _ _ _ _ _ _ ⟨Cond.after_iff.mpr rfl, Cond.after_iff.mpr (eq_i res_at (Term.int_eval (1)) rfl), trivial⟩ ⟨hq.1, hq.2.1, (hq.2.2.sift fun y hy => Or.inr (N y hy)).mono (by decide) (by decide)⟩⟩
theorem main_1_1 : Claimed_1_1 := comes_1 fun _ _ _ _ _ _ h hF => ⟨h.1, hF⟩
theorem main_1_2 : Claimed_1_2 := comes_1 fun _ _ _ _ _ _ h hF => ⟨h.2.1, hF⟩
end Jvm.Pilot.@@N@@
namespace Jvm.Pilot.@@N@@
open Jvm Jvm.ClassFile Sem Op Lib Jvm.Free Jvm.Stand Jvm.Pilot.@@N@@.Jvm.D
/-! MADE BY PROGRAM (witnessworld.py) out of the Statement's table words and the real class files: 10 classes; the members and pool entries that the words name. The judged class is class 1, her method 1. -/
namespace start1
open Jvm.ClassFile
def u (s : String) : CpInfo := .utf8 (stringToUtf16 s)
/-- a pool by its gaps: so many unusable entries, then the entry; so many at the end -/
def gap : Nat → List CpInfo → List CpInfo
  | 0, r => r
  | n + 1, r => .unusable :: gap n r
def poolList (es : List (Nat × CpInfo)) (last : Nat) : List CpInfo := es.foldr (fun e r => gap e.1 (e.2 :: r)) (gap last [])
def pool (es : List (Nat × CpInfo)) (last : Nat) : Array CpInfo := ⟨poolList es last⟩
def fileOf (pool : Array CpInfo) (this : Nat) (attrs : Array Attribute := #[]) (ms : Array MethodInfo := #[]) (fl : Nat := 33) (sup : Nat := 0) (ifs : Array Nat := #[]) (fds : Array FieldInfo := #[]) : ClassFile where
  minorVersion := 0
  majorVersion := 65
  constantPool := pool
  accessFlags := fl
  thisClass := this
  superClass := sup
  interfaces := ifs
  fields := fds
  methods := ms
  attributes := attrs
def plain (name : String) (sup : Option ClassId) : Class where
  name := name
  kind := .ordinary
  loader := none
  accessFlags := 33
  super := sup
  interfaces := #[]
  cf := none
  fields := #[]
  methods := #[]
  instanceTypes := #[]
  staticTypes := #[]
  resolved := #[]
  callSites := []
  init := .initialized
  statics := none
  mirror := none

def pool0 : Array CpInfo := pool [(5, u "<init>"), (0, u "()V"), (1, .class_ 10), (1, u "java/lang/Object")] 113

def k0c0 : Code := { maxStack := 0, maxLocals := 1, code := object_method_1_code, exceptionTable := #[], attributes := #[] }
def k0m0 : Method := { name := "<init>", desc := "()V", sig := { parameters := [], returnType := none }, accessFlags := 1, code := some k0c0 }
/-- java/lang/Object -/
def k0 : Class := { plain "java/lang/Object" none with
  accessFlags := 33
  interfaces := #[]
  cf := some (fileOf pool0 8 #[] #[{ accessFlags := 1, nameIndex := 5, descriptorIndex := 6, attributes := #[] }] 33 0 #[] #[])
  fields := #[]
  methods := #[k0m0]
  instanceTypes := #[]
  staticTypes := #[]
  resolved := Array.replicate 124 none
  statics := none }

def pool1 : Array CpInfo := pool [(2, .class_ 4), (0, .nameAndType 5 6), (0, u "java/lang/Object"), (0, u "<init>"), (0, u "()V"), (0, .class_ 8), (0, u "com/example/vilkarsbok/vilkarsbok/PeriodDays"), (0, .methodref 7 3), (0, .methodref 7 11), (0, .nameAndType 12 13), (0, u "begin"), (0, u "(JIZ)V"), (0, .methodref 7 15), (0, .nameAndType 16 17), (0, u "set"), (0, u "(IIIII)V"), (0, .methodref 7 19), (0, .nameAndType 20 21), (0, u "start"), (0, u "(I)J"), (0, .class_ 23), (0, u "com/example/vilkarsbok/vilkarsbok/PeriodDaysStartPinLaw"), (2, u "law"), (0, u "(JIIIII)Z")] 3

def k1m0 : Method := { name := "<init>", desc := "()V", sig := { parameters := [], returnType := none }, accessFlags := 1, code := none }
def k1c1 : Code := { maxStack := 7, maxLocals := 14, code := code, exceptionTable := #[], attributes := #[] }
def k1m1 : Method := { name := "law", desc := "(JIIIII)Z", sig := { parameters := [.long, .int, .int, .int, .int, .int], returnType := some .boolean }, accessFlags := 9, code := some k1c1 }
/-- com/example/vilkarsbok/vilkarsbok/PeriodDaysStartPinLaw -/
def k1 : Class := { plain "com/example/vilkarsbok/vilkarsbok/PeriodDaysStartPinLaw" (some 0) with
  accessFlags := 49
  interfaces := #[]
  cf := some (fileOf pool1 22 #[] #[{ accessFlags := 1, nameIndex := 5, descriptorIndex := 6, attributes := #[] }, { accessFlags := 9, nameIndex := 26, descriptorIndex := 27, attributes := #[] }] 49 2 #[] #[])
  fields := #[]
  methods := #[k1m0, k1m1]
  instanceTypes := #[]
  staticTypes := #[]
  resolved := Array.replicate 31 none
  statics := none }

def pool2 : Array CpInfo := pool [(1, .methodref 2 3), (0, .class_ 4), (0, .nameAndType 5 6), (0, u "java/lang/Object"), (0, u "<init>"), (0, u "()V"), (0, .class_ 8), (0, u "com/example/vilkarsbok/vilkarsbok/PeriodDays"), (0, .fieldref 7 10), (0, .nameAndType 11 12), (0, u "ends"), (0, u "[I"), (0, .fieldref 7 14), (0, .nameAndType 15 12), (0, u "payments"), (0, .fieldref 7 17), (0, .nameAndType 18 12), (0, u "fixings"), (0, .fieldref 7 20), (0, .nameAndType 21 12), (0, u "days"), (0, .methodref 23 24), (0, .class_ 25), (0, .nameAndType 26 27), (0, u "java/lang/Math"), (0, u "max"), (0, u "(II)I"), (0, .fieldref 7 29), (0, .nameAndType 30 31), (0, u "start"), (0, u "J"), (0, .fieldref 7 33), (0, .nameAndType 34 35), (0, u "count"), (0, u "I"), (0, .fieldref 7 37), (0, .nameAndType 38 39), (0, u "floats"), (0, u "Z"), (20, u "FIRST_PERIODS"), (4, u "begin"), (0, u "(JIZ)V"), (1, u "set"), (0, u "(IIIII)V"), (1, u "(I)J")] 12

def k2c0 : Code := { maxStack := 2, maxLocals := 1, code := prog_36_method_1_code, exceptionTable := #[], attributes := #[] }
def k2m0 : Method := { name := "<init>", desc := "()V", sig := { parameters := [], returnType := none }, accessFlags := 1, code := some k2c0 }
def k2c1 : Code := { maxStack := 3, maxLocals := 6, code := prog_36_method_2_code, exceptionTable := #[], attributes := #[] }
def k2m1 : Method := { name := "begin", desc := "(JIZ)V", sig := { parameters := [.long, .int, .boolean], returnType := none }, accessFlags := 0, code := some k2c1 }
def k2c2 : Code := { maxStack := 3, maxLocals := 6, code := prog_36_method_3_code, exceptionTable := #[], attributes := #[] }
def k2m2 : Method := { name := "set", desc := "(IIIII)V", sig := { parameters := [.int, .int, .int, .int, .int], returnType := none }, accessFlags := 0, code := some k2c2 }
def k2c3 : Code := { maxStack := 3, maxLocals := 2, code := prog_36_method_5_code, exceptionTable := #[], attributes := #[] }
def k2m3 : Method := { name := "start", desc := "(I)J", sig := { parameters := [.int], returnType := some .long }, accessFlags := 1, code := some k2c3 }
/-- com/example/vilkarsbok/vilkarsbok/PeriodDays -/
def k2 : Class := { plain "com/example/vilkarsbok/vilkarsbok/PeriodDays" (some 0) with
  accessFlags := 49
  interfaces := #[]
  cf := some (fileOf pool2 7 #[] #[{ accessFlags := 1, nameIndex := 5, descriptorIndex := 6, attributes := #[] }, { accessFlags := 0, nameIndex := 65, descriptorIndex := 66, attributes := #[] }, { accessFlags := 0, nameIndex := 68, descriptorIndex := 69, attributes := #[] }, { accessFlags := 1, nameIndex := 30, descriptorIndex := 71, attributes := #[] }] 49 2 #[] #[{ accessFlags := 26, nameIndex := 60, descriptorIndex := 35, attributes := #[] }, { accessFlags := 2, nameIndex := 30, descriptorIndex := 31, attributes := #[] }, { accessFlags := 2, nameIndex := 34, descriptorIndex := 35, attributes := #[] }, { accessFlags := 2, nameIndex := 38, descriptorIndex := 39, attributes := #[] }, { accessFlags := 2, nameIndex := 11, descriptorIndex := 12, attributes := #[] }, { accessFlags := 2, nameIndex := 15, descriptorIndex := 12, attributes := #[] }, { accessFlags := 2, nameIndex := 18, descriptorIndex := 12, attributes := #[] }, { accessFlags := 2, nameIndex := 21, descriptorIndex := 12, attributes := #[] }])
  fields := #[{ name := "FIRST_PERIODS", type := .int, accessFlags := 26, slot := 0, constantValue := 0 }, { name := "start", type := .long, accessFlags := 2, slot := 0, constantValue := 0 }, { name := "count", type := .int, accessFlags := 2, slot := 1, constantValue := 0 }, { name := "floats", type := .boolean, accessFlags := 2, slot := 2, constantValue := 0 }, { name := "ends", type := (.array .int), accessFlags := 2, slot := 3, constantValue := 0 }, { name := "payments", type := (.array .int), accessFlags := 2, slot := 4, constantValue := 0 }, { name := "fixings", type := (.array .int), accessFlags := 2, slot := 5, constantValue := 0 }, { name := "days", type := (.array .int), accessFlags := 2, slot := 6, constantValue := 0 }]
  methods := #[k2m0, k2m1, k2m2, k2m3]
  instanceTypes := #[.long, .int, .boolean, (.array .int), (.array .int), (.array .int), (.array .int)]
  staticTypes := #[.int]
  resolved := Array.replicate 84 none
  statics := none }

def pool3 : Array CpInfo := pool [(1, .class_ 2), (0, u "java/lang/Math"), (1, .class_ 6), (1, u "java/lang/Object"), (0, u "<init>"), (0, u "()V"), (89, .class_ 100), (1, u "java/lang/Math$RandomNumberGeneratorHolder"), (71, u "negativeZeroFloatBits"), (0, u "J"), (2, u "negativeZeroDoubleBits"), (21, u "max"), (46, u "$assertionsDisabled"), (0, u "Z"), (88, u "(II)I"), (2, u "twoToTheDoubleScaleDown"), (0, u "D"), (4, u "twoToTheDoubleScaleUp"), (9, u "E"), (3, u "PI"), (2, u "TAU"), (2, u "DEGREES_TO_RADIANS"), (0, u "RADIANS_TO_DEGREES")] 94

def k3m0 : Method := { name := "<init>", desc := "()V", sig := { parameters := [], returnType := none }, accessFlags := 2, code := none }
def k3c1 : Code := { maxStack := 2, maxLocals := 2, code := jdk_29_method_65_code, exceptionTable := #[], attributes := #[] }
def k3m1 : Method := { name := "max", desc := "(II)I", sig := { parameters := [.int, .int], returnType := some .int }, accessFlags := 9, code := some k3c1 }
/-- java/lang/Math -/
def k3 : Class := { plain "java/lang/Math" (some 0) with
  accessFlags := 49
  interfaces := #[]
  cf := some (fileOf pool3 1 #[.nestMembers #[98]] #[{ accessFlags := 2, nameIndex := 7, descriptorIndex := 8, attributes := #[] }, { accessFlags := 9, nameIndex := 198, descriptorIndex := 335, attributes := #[] }] 49 4 #[] #[{ accessFlags := 25, nameIndex := 354, descriptorIndex := 339, attributes := #[] }, { accessFlags := 25, nameIndex := 358, descriptorIndex := 339, attributes := #[] }, { accessFlags := 25, nameIndex := 361, descriptorIndex := 339, attributes := #[] }, { accessFlags := 26, nameIndex := 364, descriptorIndex := 339, attributes := #[] }, { accessFlags := 26, nameIndex := 365, descriptorIndex := 339, attributes := #[] }, { accessFlags := 26, nameIndex := 172, descriptorIndex := 173, attributes := #[] }, { accessFlags := 26, nameIndex := 176, descriptorIndex := 173, attributes := #[] }, { accessFlags := 8, nameIndex := 344, descriptorIndex := 339, attributes := #[] }, { accessFlags := 8, nameIndex := 338, descriptorIndex := 339, attributes := #[] }, { accessFlags := 4120, nameIndex := 245, descriptorIndex := 246, attributes := #[] }])
  fields := #[{ name := "E", type := .double, accessFlags := 25, slot := 0, constantValue := 0 }, { name := "PI", type := .double, accessFlags := 25, slot := 1, constantValue := 0 }, { name := "TAU", type := .double, accessFlags := 25, slot := 2, constantValue := 0 }, { name := "DEGREES_TO_RADIANS", type := .double, accessFlags := 26, slot := 3, constantValue := 0 }, { name := "RADIANS_TO_DEGREES", type := .double, accessFlags := 26, slot := 4, constantValue := 0 }, { name := "negativeZeroFloatBits", type := .long, accessFlags := 26, slot := 5, constantValue := 0 }, { name := "negativeZeroDoubleBits", type := .long, accessFlags := 26, slot := 6, constantValue := 0 }, { name := "twoToTheDoubleScaleUp", type := .double, accessFlags := 8, slot := 7, constantValue := 0 }, { name := "twoToTheDoubleScaleDown", type := .double, accessFlags := 8, slot := 8, constantValue := 0 }, { name := "$assertionsDisabled", type := .boolean, accessFlags := 4120, slot := 9, constantValue := 0 }]
  methods := #[k3m0, k3m1]
  instanceTypes := #[]
  staticTypes := #[.double, .double, .double, .double, .double, .long, .long, .double, .double, .boolean]
  resolved := Array.replicate 460 none
  statics := none }

def pool4 : Array CpInfo := pool [(1, u "java/lang/Cloneable"), (0, .class_ 1), (0, u "java/lang/Object"), (0, .class_ 3)] 3

/-- java/lang/Cloneable -/
def k4 : Class := { plain "java/lang/Cloneable" (some 0) with
  accessFlags := 1537
  interfaces := #[]
  cf := some (fileOf pool4 2 #[] #[] 1537 4 #[] #[])
  fields := #[]
  methods := #[]
  instanceTypes := #[]
  staticTypes := #[]
  resolved := Array.replicate 8 none
  statics := none }

def pool5 : Array CpInfo := pool [(1, u "java/io/Serializable"), (0, .class_ 1), (0, u "java/lang/Object"), (0, .class_ 3)] 3

/-- java/io/Serializable -/
def k5 : Class := { plain "java/io/Serializable" (some 0) with
  accessFlags := 1537
  interfaces := #[]
  cf := some (fileOf pool5 2 #[] #[] 1537 4 #[] #[])
  fields := #[]
  methods := #[]
  instanceTypes := #[]
  staticTypes := #[]
  resolved := Array.replicate 8 none
  statics := none }

/-- the primitive byte -/
def k6 : Class := { plain "byte" none with kind := .primitive 'B', accessFlags := 0x411 }
/-- [B -/
def k7 : Class := { plain "[B" (some 0) with kind := .array 6 .byte, interfaces := #[4, 5], accessFlags := 1041 }

/-- the primitive int -/
def k8 : Class := { plain "int" none with kind := .primitive 'I', accessFlags := 0x411 }
/-- [I -/
def k9 : Class := { plain "[I" (some 0) with kind := .array 8 .int, interfaces := #[4, 5], accessFlags := 1041 }

def heap : Heap := #[]
def classes : Array Class := #[k0, k1, k2, k3, k4, k5, k6, k7, k8, k9]
def interned : List (Array UInt16 × Addr) := []
def slotsUsed : Nat := 0
def theMethod : MethodId := ⟨1, 1⟩
def args0 : Array Value := #[.long 5, .int 1, .int 2, .int 3, .int 4, .int 5]
def aboutOver (below : List Frame) : State where
  vm := { classes := classes, interned := interned.toArray }
  heap := heap
  slotsUsed := slotsUsed
  threads := #[{ frames := .invoking theMethod args0 :: below }]
def below0 : List Frame := [.native { method := ⟨0, 0⟩, args := #[] }]
def about1 : State := aboutOver below0
def p0 : Program := .bare "" "" ""
def e0 : Env := launch0.env 0 0 0
theorem w_frames : about1.frames = Frame.invoking theMethod args0 :: below0 := rfl
set_option maxRecDepth 65536 in
theorem w_args : argsFit about1.vm theMethod args0 = true := by decide +kernel
set_option maxRecDepth 65536 in
theorem w_heap : heapFits about1 = true := by decide +kernel
set_option maxRecDepth 65536 in
theorem w_runnable : about1.curStatus? = some .runnable := by decide +kernel
set_option maxRecDepth 65536 in
theorem w_alone : about1.alone = true := by decide +kernel
set_option maxRecDepth 65536 in
theorem w_named : about1.methodNamed? x = some theMethod := by decide +kernel
set_option maxRecDepth 65536 in
theorem w_hears : about1.hears theMethod below0 = true := by decide +kernel
set_option maxRecDepth 65536 in
theorem w_ripe : about1.ripe theMethod args0 below0 = true := by decide +kernel
theorem w_running : about1.status = .running := rfl
set_option maxRecDepth 65536 in
theorem w_room : about1.hasRoom e0.platform room_1 = true :=
  launch0.hasRoom_least _ room_1 (by decide +kernel) (by decide +kernel) (by decide +kernel) (by decide +kernel) (by decide +kernel) (by decide +kernel)
theorem allAtoms_all (ts : List Jvm.Cond) (a : Array Jvm.Value) (st : Jvm.State) : (allAtoms ts).before a st = ts.all (fun c => c.before a st) := by
  induction ts with
  | nil => rfl
  | cons c t ih =>
    show (Jvm.Cond.and c (allAtoms t)).before a st = _
    rw [Jvm.Cond.before_and, ih, List.all_cons]
def words1 : List Jvm.Cond := Jvm.Cond.code x code maxLocals ret :: tables_1
/-- a 'code' word, met by the world's own term for the bytes: nothing is compared byte by byte -/
theorem code_word {y : MethodName} {bytes : ByteArray} {mx : Nat} {rt : Option FieldType} {a : Array Value} {s : State} {m : MethodId} {meth : Method} {c : Code} (h1 : s.methodNamed? y = some m) (h2 : s.vm.method? m = some meth) (h3 : meth.code = some c) (h4 : c.code = bytes)
    (h5 : (c.maxLocals == mx && c.exceptionTable.isEmpty && decide (c.maxStack ≤ mostOperands) && decide (meth.sig.returnType = rt) && !meth.locks && decide (parseMethodDescriptor y.desc = some meth.sig)) = true) : (Jvm.Cond.code y bytes mx rt).before a s = true := by
  simp only [Bool.and_eq_true, beq_iff_eq, Bool.not_eq_true', decide_eq_true_eq] at h5
  obtain ⟨⟨⟨⟨⟨g1, g2⟩, g3⟩, g4⟩, g5⟩, g6⟩ := h5
  simp [Cond.before, Cond.holds, Cond.value, h1, h2, h3, h4, g1, g2, g3, g4, g5, g6]
def isCode : Jvm.Cond → Bool
  | .code _ _ _ _ => true
  | _ => false
theorem all_split {L : List Jvm.Cond} {P : Jvm.Cond → Bool} (h1 : L.all (fun c => isCode c || P c) = true) (h2 : ∀ c ∈ L.filter isCode, P c = true) : L.all P = true := by
  refine List.all_eq_true.mpr fun c hc => ?_
  have h := List.all_eq_true.mp h1 c hc
  rcases Bool.eq_false_or_eq_true (isCode c) with hi | hi
  · exact h2 c (List.mem_filter.mpr ⟨hc, hi⟩)
  · simpa [hi] using h
set_option maxRecDepth 65536 in
theorem w_c0 : (Jvm.Cond.code x code maxLocals ret).before args0 about1 = true := code_word (m := ⟨1, 1⟩) (meth := k1m1) (c := k1c1) (by decide +kernel) rfl rfl rfl (by decide +kernel)
set_option maxRecDepth 65536 in
theorem w_c1 : (Jvm.Cond.code ({ cls := "com/example/vilkarsbok/vilkarsbok/PeriodDays", name := "<init>", desc := "()V" } : Jvm.MethodName) prog_36_method_1_code (1 : Nat) (Option.none : Option Jvm.ClassFile.FieldType)).before args0 about1 = true := code_word (m := ⟨2, 0⟩) (meth := k2m0) (c := k2c0) (by decide +kernel) rfl rfl rfl (by decide +kernel)
set_option maxRecDepth 65536 in
theorem w_c2 : (Jvm.Cond.code ({ cls := "java/lang/Object", name := "<init>", desc := "()V" } : Jvm.MethodName) object_method_1_code (1 : Nat) (Option.none : Option Jvm.ClassFile.FieldType)).before args0 about1 = true := code_word (m := ⟨0, 0⟩) (meth := k0m0) (c := k0c0) (by decide +kernel) rfl rfl rfl (by decide +kernel)
set_option maxRecDepth 65536 in
theorem w_c3 : (Jvm.Cond.code ({ cls := "com/example/vilkarsbok/vilkarsbok/PeriodDays", name := "begin", desc := "(JIZ)V" } : Jvm.MethodName) prog_36_method_2_code (6 : Nat) (Option.none : Option Jvm.ClassFile.FieldType)).before args0 about1 = true := code_word (m := ⟨2, 1⟩) (meth := k2m1) (c := k2c1) (by decide +kernel) rfl rfl rfl (by decide +kernel)
set_option maxRecDepth 65536 in
theorem w_c4 : (Jvm.Cond.code ({ cls := "com/example/vilkarsbok/vilkarsbok/PeriodDays", name := "set", desc := "(IIIII)V" } : Jvm.MethodName) prog_36_method_3_code (6 : Nat) (Option.none : Option Jvm.ClassFile.FieldType)).before args0 about1 = true := code_word (m := ⟨2, 2⟩) (meth := k2m2) (c := k2c2) (by decide +kernel) rfl rfl rfl (by decide +kernel)
set_option maxRecDepth 65536 in
theorem w_c5 : (Jvm.Cond.code ({ cls := "com/example/vilkarsbok/vilkarsbok/PeriodDays", name := "start", desc := "(I)J" } : Jvm.MethodName) prog_36_method_5_code (2 : Nat) (Option.some Jvm.ClassFile.FieldType.long)).before args0 about1 = true := code_word (m := ⟨2, 3⟩) (meth := k2m3) (c := k2c3) (by decide +kernel) rfl rfl rfl (by decide +kernel)
set_option maxRecDepth 65536 in
theorem w_c6 : (Jvm.Cond.code ({ cls := "java/lang/Math", name := "max", desc := "(II)I" } : Jvm.MethodName) jdk_29_method_65_code (2 : Nat) (Option.some Jvm.ClassFile.FieldType.int)).before args0 about1 = true := code_word (m := ⟨3, 1⟩) (meth := k3m1) (c := k3c1) (by decide +kernel) rfl rfl rfl (by decide +kernel)
def codes1 : List Jvm.Cond := [Jvm.Cond.code x code maxLocals ret, Jvm.Cond.code ({ cls := "com/example/vilkarsbok/vilkarsbok/PeriodDays", name := "<init>", desc := "()V" } : Jvm.MethodName) prog_36_method_1_code (1 : Nat) (Option.none : Option Jvm.ClassFile.FieldType), Jvm.Cond.code ({ cls := "java/lang/Object", name := "<init>", desc := "()V" } : Jvm.MethodName) object_method_1_code (1 : Nat) (Option.none : Option Jvm.ClassFile.FieldType), Jvm.Cond.code ({ cls := "com/example/vilkarsbok/vilkarsbok/PeriodDays", name := "begin", desc := "(JIZ)V" } : Jvm.MethodName) prog_36_method_2_code (6 : Nat) (Option.none : Option Jvm.ClassFile.FieldType), Jvm.Cond.code ({ cls := "com/example/vilkarsbok/vilkarsbok/PeriodDays", name := "set", desc := "(IIIII)V" } : Jvm.MethodName) prog_36_method_3_code (6 : Nat) (Option.none : Option Jvm.ClassFile.FieldType), Jvm.Cond.code ({ cls := "com/example/vilkarsbok/vilkarsbok/PeriodDays", name := "start", desc := "(I)J" } : Jvm.MethodName) prog_36_method_5_code (2 : Nat) (Option.some Jvm.ClassFile.FieldType.long), Jvm.Cond.code ({ cls := "java/lang/Math", name := "max", desc := "(II)I" } : Jvm.MethodName) jdk_29_method_65_code (2 : Nat) (Option.some Jvm.ClassFile.FieldType.int)]
set_option maxRecDepth 65536 in
theorem codes_eq : words1.filter isCode = codes1 := rfl
theorem w_codes : ∀ c ∈ words1.filter isCode, c.before args0 about1 = true := by
  rw [codes_eq]
  intro c hc
  simp only [codes1, List.mem_cons, List.not_mem_nil, or_false] at hc
  rcases hc with rfl | rfl | rfl | rfl | rfl | rfl | rfl
  · exact w_c0
  · exact w_c1
  · exact w_c2
  · exact w_c3
  · exact w_c4
  · exact w_c5
  · exact w_c6
set_option maxRecDepth 65536 in
theorem w_t1 : (words1.take 24).all (fun c => isCode c || c.before args0 about1) = true := by decide +kernel
set_option maxRecDepth 65536 in
theorem w_t2 : (words1.drop 24).all (fun c => isCode c || c.before args0 about1) = true := by decide +kernel
theorem w_tables : (allAtoms (Jvm.Cond.code x code maxLocals ret :: tables_1)).before args0 about1 = true := by
  rw [allAtoms_all]
  show words1.all (fun c => c.before args0 about1) = true
  refine all_split ?_ w_codes
  rw [← List.take_append_drop 24 words1, List.all_append, w_t1, w_t2]
  rfl
set_option maxRecDepth 65536 in
theorem w_case : (Jvm.Cond.and given_1 narrow_1).before args0 about1 = true := by decide +kernel
theorem w_applies : (headSpec (Jvm.Cond.code x code maxLocals ret :: tables_1) room_1).applies x e0.platform about1 = true :=
  (Spec.applies_iff w_frames).mpr ⟨w_running, w_runnable, w_alone, w_named, w_hears, w_ripe, w_room, w_tables⟩
theorem atStart : AtStart classFile x code maxLocals ret World_1 tables_1 room_1 Calls_1 rest_1 Pre_1 launch0 p0 e0 about1 theMethod args0 below0 :=
  ⟨lists_1, trivial, launch0.admits_env _ _ _, launch0.least_env, fairChoices_fair.cas, fairChoices_fair.clock, w_frames, w_args, w_heap, w_applies, trivial, trivial, w_case⟩
end start1
theorem witness_1 : WitnessClaimed_1 := ⟨start1.p0, start1.e0, start1.about1, start1.theMethod, start1.args0, start1.below0, start1.atStart⟩
end Jvm.Pilot.@@N@@
