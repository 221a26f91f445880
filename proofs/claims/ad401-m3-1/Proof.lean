import JvmDerived
import JvmDerived.Pilot.@@N@@Statement
import JvmDerived.Pilot.@@N@@Code
set_option linter.unusedVariables false
set_option linter.unusedSimpArgs false
@@BLOCK:HandJ.lean.txt@@
@@BLOCK:SymMore.lean.txt@@
namespace Jvm.RoadKit
open Sem ClassFile Op Lib Jvm.Stand Jvm.Free Jvm.LawKit
section New
variable {p : Program} {l : Launch} {e : Env} {R : Room} {s : State} {m : MethodId} {args : Array Value} {below : List Frame} {meth : Method} {c : Code} {T : State} {locs : List Loc} {cells slots : Nat}
theorem retI (X : Stand p l e R s m args below meth c T locs cells slots) (hx : p.tables.exec = Jvm.exec) {pc : Nat} {Ls : Array Slot} {z : Int32} {rest : List Value} (hret : meth.sig.returnType = some .int) (hd : decode c.code pc = .ok (.ireturn, 1)) {fs : List Frame}
    (hl : ∀ (f : JFrame) (acts : List Action), f.method = m → f.locked = none → f.entered = [] → (doReturn e (T.setTop f) acts (some (.int z))).1 = T.setFrames fs) : Steps p.tables e below (T.setTop (mkF m pc Ls (.int z :: rest))) (T.setFrames fs) := by
  have hm' : T.vm.method? m = some meth := X.method'
  have hn : narrow .int (.int z) = .int z := rfl
  show Steps p.tables e below (T.setTop { method := m, pc := pc, locals := Ls, stack := _ :: rest, locked := none }) _
  jvm_step X.here [X.here.top, hx, hd, hm', hret, hn]
  first | (intro acts; rw [hl _ acts rfl rfl rfl]) | rw [hl _ _ rfl rfl rfl]
  exact Steps.refl _
end New
end Jvm.RoadKit
namespace Jvm.Pilot.@@N@@
open Jvm Jvm.ClassFile Sem Op Lib Jvm.Free Jvm.Stand Jvm.LawKit Jvm.RoadKit Bundle Jvm.Pilot.@@N@@.Jvm.D
/-! the plain law -/
theorem own_budget (x y : Int64) (z w : Int32) (lim t su a d b : Int64) (e1 : lim = (x >>> ((2 : Int32) &&& 0x3f).toInt64)) (e2 : t = ((z &&& (1048575 : Int32)).toInt64)) (e3 : su = t / (1000 : Int64)) (ha : ((a = (lim - su) ∧ (lim - su) < (y >>> ((2 : Int32) &&& 0x3f).toInt64)) ∨ (a = (y >>> ((2 : Int32) &&& 0x3f).toInt64) ∧ ¬ (lim - su) < (y >>> ((2 : Int32) &&& 0x3f).toInt64)))) (e4 : d = ((w &&& (3 : Int32)).toInt64)) (e5 : b = ((lim - a) - su) - d) :
    ¬ lim < (((0 : Int64) + a) + ((0 : Int64) / (1000 : Int64))) ∧ ¬ lim < (((0 : Int64) + a) + (((0 : Int64) + t) / (1000 : Int64))) ∧ ¬ lim < ((((0 : Int64) + a) + b) + (((0 : Int64) + t) / (1000 : Int64))) := by
  have k1 := c_lshr x 2 2 (by decide)
  have k2 := c_lshr y 2 2 (by decide)
  have k3 := c_mask z 1048575 20 (by decide) (by decide)
  have k4 := c_mask w 3 2 (by decide) (by decide)
  have k5 := c_i2l (z &&& (1048575 : Int32))
  have k6 := c_i2l (w &&& (3 : Int32))
  have k7 := (c_ldiv t 1000 1000 (by decide) (by decide)).1
  have x1 := Int64.toInt_lt x; have x2 := Int64.le_toInt x
  have y1 := Int64.toInt_lt y; have y2 := Int64.le_toInt y
  rw [← e1] at k1
  rw [← e2] at k5
  rw [← e4] at k6
  rw [← e3] at k7
  have q1 := c_lsub lim su
  have q2 := c_lsub lim a
  have q3 := c_lsub (lim - a) su
  have q4 := c_lsub ((lim - a) - su) d
  rw [← e5] at q4
  have r1 := Int64.toInt_lt (lim - su); have r2 := Int64.le_toInt (lim - su)
  have r3 := Int64.toInt_lt a; have r4 := Int64.le_toInt a
  have r5 := Int64.toInt_lt b; have r6 := Int64.le_toInt b
  have z0 : (0 : Int64) / (1000 : Int64) = 0 := by decide
  rw [Int64.zero_add, Int64.zero_add, z0, Int64.add_zero, ← e3]
  have s1 := c_ladd a su
  have s2 := c_ladd a b
  have s3 := c_ladd (a + b) su
  have t1 := Int64.toInt_lt (a + su); have t2 := Int64.le_toInt (a + su)
  have t3 := Int64.toInt_lt (a + b + su); have t4 := Int64.le_toInt (a + b + su)
  have aa : a.toInt ≤ (lim - su).toInt := by
    simp only [Int64.lt_iff_toInt_lt] at ha
    rcases ha with ⟨rfl, ha⟩ | ⟨rfl, ha⟩ <;> omega
  have ab : a.toInt = (lim - su).toInt ∨ a.toInt = ((y >>> ((2 : Int32) &&& 0x3f).toInt64)).toInt := by
    rcases ha with ⟨rfl, ha⟩ | ⟨rfl, ha⟩
    · exact Or.inl rfl
    · exact Or.inr rfl
  generalize (y >>> ((2 : Int32) &&& 0x3f).toInt64) = yy at *
  clear ha e1 e2 e3 e4 e5 z0
  simp only [Int64.lt_iff_toInt_lt] at *
  refine ⟨by omega, by omega, by omega⟩
def Qm (Z : State) (q1 q2 : Int64) (h0 : Heap) (n0 : Nat) (v : Option Value) (h : Heap) (L : List Loc) : Prop := (∃ r : Int64, v = some (.long r) ∧ ((r = q2 ∧ q2 < q1) ∨ (r = q1 ∧ ¬ q2 < q1))) ∧ Fr n0 L ∧ h = h0
theorem d1_0 : decode jdk_29_method_70_code 0 = .ok (.lload_n 0, 1) := by decide +kernel
theorem d1_1 : decode jdk_29_method_70_code 1 = .ok (.lload_n 2, 1) := by decide +kernel
theorem d1_2 : decode jdk_29_method_70_code 2 = .ok (.lcmp, 1) := by decide +kernel
theorem d1_3 : decode jdk_29_method_70_code 3 = .ok (.ifCond .gt 7, 3) := by decide +kernel
theorem d1_10 : decode jdk_29_method_70_code 10 = .ok (.lload_n 2, 1) := by decide +kernel
theorem d1_11 : decode jdk_29_method_70_code 11 = .ok (.lreturn, 1) := by decide +kernel
theorem d1_6 : decode jdk_29_method_70_code 6 = .ok (.lload_n 0, 1) := by decide +kernel
theorem d1_7 : decode jdk_29_method_70_code 7 = .ok (.goto 4, 3) := by decide +kernel
theorem ef_1 (m : MethodId) (q1 : Int64) (q2 : Int64) : entryFrame m #[(.long q1), (.long q2)] 4 = mkF m 0 #[.val (.long q1), .second, .val (.long q2), .second] [] := by first | (simp [entryFrame, mkF, argsToLocals, Value.category]; done) | rfl
set_option maxRecDepth 65536 in
set_option maxHeartbeats 40000000 in
theorem rmM (l : Launch) (Z : State) (a0 : Array Value) (hw : ∀ d ∈ tables_1, d.before a0 Z = true) (ws : List Jvm.Cond) (q1 : Int64) (q2 : Int64)  (h0 : Heap) (n0 : Nat) (Z0 : n0 ≤ h0.size)  :
    MetFree l (⟨"java/lang/Math", "min", "(JJ)J"⟩ : MethodName) (head1 (Jvm.Cond.code (⟨"java/lang/Math", "min", "(JJ)J"⟩ : MethodName) jdk_29_method_70_code 4 (some .long) :: ws) ({ frames := 0, cells := 0, slots := 0, locals := 0 } : Room)) (fun a U => a = #[(.long q1), (.long q2)] ∧ Z.Warmed39 U.vm ∧ U.heap = h0) (fun _ _ _ _ _ => True) (fun _ U o U' => ∃ v L, o = .returned v ∧ Qm Z q1 q2 h0 n0 v U'.heap L ∧ FrameEnd U o U' L ({ frames := 0, cells := 0, slots := 0, locals := 0 } : Room).cells ({ frames := 0, cells := 0, slots := 0, locals := 0 } : Room).slots) := by
  refine MetFree.of_bodySF (Jvm.Free.JP.mathPlain rfl (by decide +kernel)) hisR ?_
  intro p e s m args below meth c s₁ Bd hml0 hP hK
  obtain ⟨rfl, hZ, hh⟩ := hP
  have hx := Bd.exec
  have hby := Bd.bytes
  have hml : c.maxLocals = 4 := hml0
  have hown : s.vm.findClass "java/lang/Math" = some m.cls := findClass_of_methodNamed Bd.named
  have hnm := (name_of_methodNamed Bd.named Bd.method).1
  have X0 : Stand p l e ({ frames := 0, cells := 0, slots := 0, locals := 0 } : Room) s m #[(.long q1), (.long q2)] below meth c s₁ [] 0 0 := Stand.of_body Bd
  have e0 : s₁.heap = h0 := by rw [← hh, Bd.state]; rfl
  have N0 := Fr.nil n0
  have pre0 : ∀ t, Steps p.tables e below (s₁.setTop (mkF m 0 #[.val (.long q1), .second, .val (.long q2), .second] [])) t → Steps p.tables e below (s₁.setTop (entryFrame m #[(.long q1), (.long q2)] 4)) t := fun t k => castTop (ef_1 m q1 q2) k
  have pre1 : ∀ t, Steps p.tables e below (s₁.setTop (mkF m 3 #[.val (.long q1), .second, .val (.long q2), .second] [(.int (lcmpW q1 q2))])) t → Steps p.tables e below (s₁.setTop (entryFrame m #[(.long q1), (.long q2)] 4)) t := by
    intro t k
    refine pre0 t ?_
    show Steps p.tables e below (s₁.setTop (mkF m 0 #[.val (.long q1), .second, .val (.long q2), .second] [])) _
    refine XS.lloadN X0.here hx rfl (hb hby d1_0) rfl ?_
    show Steps p.tables e below (s₁.setTop (mkF m 1 #[.val (.long q1), .second, .val (.long q2), .second] [(.long q1)])) _
    refine XS.lloadN X0.here hx rfl (hb hby d1_1) rfl ?_
    show Steps p.tables e below (s₁.setTop (mkF m 2 #[.val (.long q1), .second, .val (.long q2), .second] [(.long q2), (.long q1)])) _
    refine XS.lcmp X0.here hx rfl (hb hby d1_2) rfl ?_
    exact k
  by_cases c3 : q2 < q1
  · obtain ⟨fs, hr, hrun, hended, hW, hsame⟩ := X0.leave (v := some (.long q2)) (fun h => by rw [Bd.returns] at h; cases h) (hlocks := BodyLoose.notSynchronized Bd)
    refine ⟨_, _, pre1 _ ?_, hrun, hended, _, _, rfl, ?_, ⟨_, rfl⟩, hW, hsame.mono (by decide) (by decide)⟩
    · show Steps p.tables e below (s₁.setTop (mkF m 3 #[.val (.long q1), .second, .val (.long q2), .second] [(.int (lcmpW q1 q2))])) _
      refine XS.ifYes X0.here hx rfl (pc0 := 3) (pc' := 10) rfl (hb hby d1_3) rfl ((if0 _ _).trans (tlt ((lw_gt _ _).mpr c3)).2.2.1) (by decide) (by decide) ?_
      show Steps p.tables e below (s₁.setTop (mkF m 10 #[.val (.long q1), .second, .val (.long q2), .second] [])) _
      refine XS.lloadN X0.here hx rfl (hb hby d1_10) rfl ?_
      show Steps p.tables e below (s₁.setTop (mkF m 11 #[.val (.long q1), .second, .val (.long q2), .second] [(.long q2)])) _
      exact retOut X0 hx (t := .long) Bd.returns rfl (Or.inr (Or.inl ⟨rfl, rfl, _, rfl⟩)) (hb hby d1_11) hr
    · show Qm Z q1 q2 h0 n0 _ s₁.heap _
      rw [e0]
      exact ⟨⟨_, rfl, Or.inl ⟨rfl, c3⟩⟩, N0, rfl⟩
  · obtain ⟨fs, hr, hrun, hended, hW, hsame⟩ := X0.leave (v := some (.long q1)) (fun h => by rw [Bd.returns] at h; cases h) (hlocks := BodyLoose.notSynchronized Bd)
    refine ⟨_, _, pre1 _ ?_, hrun, hended, _, _, rfl, ?_, ⟨_, rfl⟩, hW, hsame.mono (by decide) (by decide)⟩
    · show Steps p.tables e below (s₁.setTop (mkF m 3 #[.val (.long q1), .second, .val (.long q2), .second] [(.int (lcmpW q1 q2))])) _
      refine XS.ifNo X0.here hx rfl (hb hby d1_3) rfl ((if0 _ _).trans (flt (fun z => c3 ((lw_gt _ _).mp z))).2.2.1) ?_
      show Steps p.tables e below (s₁.setTop (mkF m 6 #[.val (.long q1), .second, .val (.long q2), .second] [])) _
      refine XS.lloadN X0.here hx rfl (hb hby d1_6) rfl ?_
      show Steps p.tables e below (s₁.setTop (mkF m 7 #[.val (.long q1), .second, .val (.long q2), .second] [(.long q1)])) _
      refine XS.goto X0.here hx rfl (pc0 := 7) (pc' := 11) rfl (hb hby d1_7) (by decide) (by decide) ?_
      show Steps p.tables e below (s₁.setTop (mkF m 11 #[.val (.long q1), .second, .val (.long q2), .second] [(.long q1)])) _
      exact retOut X0 hx (t := .long) Bd.returns rfl (Or.inr (Or.inl ⟨rfl, rfl, _, rfl⟩)) (hb hby d1_11) hr
    · show Qm Z q1 q2 h0 n0 _ s₁.heap _
      rw [e0]
      exact ⟨⟨_, rfl, Or.inr ⟨rfl, c3⟩⟩, N0, rfl⟩
def Qi (Z : State) (a1 : Addr) (q2 un st : Int64) (h0 : Heap) (n0 : Nat) (v : Option Value) (h : Heap) (L : List Loc) : Prop := v = none ∧ Fr n0 L ∧ Keep h0 h [a1] ∧ Exa Z h a1 "com/example/shared_record_log/sharedrecordlog/query/Budget" ∧ Fld Z h a1 "com/example/shared_record_log/sharedrecordlog/query/Budget" "limit" "J" (.long q2) ∧ Fld Z h a1 "com/example/shared_record_log/sharedrecordlog/query/Budget" "units" "J" (.long un) ∧ Fld Z h a1 "com/example/shared_record_log/sharedrecordlog/query/Budget" "steps" "J" (.long st)
theorem d2_0 : decode prog_23_method_1_code 0 = .ok (.aload_n 0, 1) := by decide +kernel
theorem d2_1 : decode prog_23_method_1_code 1 = .ok (.invokespecial 1, 3) := by decide +kernel
theorem d2_4 : decode prog_23_method_1_code 4 = .ok (.aload_n 0, 1) := by decide +kernel
theorem d2_5 : decode prog_23_method_1_code 5 = .ok (.lload_n 1, 1) := by decide +kernel
theorem d2_6 : decode prog_23_method_1_code 6 = .ok (.putfield 7, 3) := by decide +kernel
theorem d2_9 : decode prog_23_method_1_code 9 = .ok (.return_, 1) := by decide +kernel
theorem ef_2 (m : MethodId) (a1 : Addr) (q2 : Int64) : entryFrame m #[(.ref a1), (.long q2)] 3 = mkF m 0 #[.val (.ref a1), .val (.long q2), .second] [] := by first | (simp [entryFrame, mkF, argsToLocals, Value.category]; done) | rfl
theorem pn_0 : plainName "com/example/shared_record_log/sharedrecordlog/query/Budget" = true := by first | (simp [plainName, overriddenIn]; done) | decide +kernel
set_option maxRecDepth 65536 in
set_option maxHeartbeats 40000000 in
theorem rmI (l : Launch) (Z : State) (a0 : Array Value) (hw : ∀ d ∈ tables_1, d.before a0 Z = true) (ws : List Jvm.Cond) (a1 : Addr) (q2 : Int64) (un st : Int64) (u1 : Value) (h0 : Heap) (n0 : Nat) (Z0 : n0 ≤ h0.size) (E : Exa Z h0 a1 "com/example/shared_record_log/sharedrecordlog/query/Budget") (F1 : Fld Z h0 a1 "com/example/shared_record_log/sharedrecordlog/query/Budget" "limit" "J" u1) (F2 : Fld Z h0 a1 "com/example/shared_record_log/sharedrecordlog/query/Budget" "units" "J" (.long un)) (F3 : Fld Z h0 a1 "com/example/shared_record_log/sharedrecordlog/query/Budget" "steps" "J" (.long st)) (g1 : n0 ≤ a1) :
    MetFree l (⟨"com/example/shared_record_log/sharedrecordlog/query/Budget", "<init>", "(J)V"⟩ : MethodName) (head1 (Jvm.Cond.code (⟨"com/example/shared_record_log/sharedrecordlog/query/Budget", "<init>", "(J)V"⟩ : MethodName) prog_23_method_1_code 3 none :: ws) ({ frames := 1, cells := 0, slots := 0, locals := 12 } : Room)) (fun a U => a = #[(.ref a1), (.long q2)] ∧ Z.Warmed39 U.vm ∧ U.heap = h0) (fun _ _ _ _ _ => True) (fun _ U o U' => ∃ v L, o = .returned v ∧ Qi Z a1 q2 un st h0 n0 v U'.heap L ∧ FrameEnd U o U' L ({ frames := 1, cells := 0, slots := 0, locals := 12 } : Room).cells ({ frames := 1, cells := 0, slots := 0, locals := 12 } : Room).slots) := by
  refine MetFree.of_bodySF (plainFor_of_name pn_0) hisR ?_
  intro p e s m args below meth c s₁ Bd hml0 hP hK
  obtain ⟨rfl, hZ, hh⟩ := hP
  have hx := Bd.exec
  have hby := Bd.bytes
  have hml : c.maxLocals = 3 := hml0
  have hown : s.vm.findClass "com/example/shared_record_log/sharedrecordlog/query/Budget" = some m.cls := findClass_of_methodNamed Bd.named
  have hnm := (name_of_methodNamed Bd.named Bd.method).1
  have X0 : Stand p l e ({ frames := 1, cells := 0, slots := 0, locals := 12 } : Room) s m #[(.ref a1), (.long q2)] below meth c s₁ [] 0 0 := Stand.of_body Bd
  have e0 : s₁.heap = h0 := by rw [← hh, Bd.state]; rfl
  have N0 := Fr.nil n0
  have pre0 : ∀ t, Steps p.tables e below (s₁.setTop (mkF m 0 #[.val (.ref a1), .val (.long q2), .second] [])) t → Steps p.tables e below (s₁.setTop (entryFrame m #[(.ref a1), (.long q2)] 3)) t := fun t k => castTop (ef_2 m a1 q2) k
  obtain ⟨T1, X1, e1, st1⟩ := initO X0 hx hZ hown (hw _ (List.mem_of_getElem? (i := 12) rfl)) (hw _ (List.mem_of_getElem? (i := 13) rfl)) (hw _ (List.mem_of_getElem? (i := 14) rfl)) e0 (g := (mkF m 1 #[.val (.ref a1), .val (.long q2), .second] [(.ref a1)])) rfl (by rw [hml]; rfl) rfl (hb hby d2_1) (by decide) (W := 0) (by show 2 * 0 + _ ≤ _; exact Nat.le_of_eq rfl) (by decide)
  obtain ⟨T2, h2, X2, e2, W2, st2⟩ := putF X1 hx hZ hown (host := "") (Or.inl (hw _ (List.mem_of_getElem? (i := 15) rfl))) Via.refl e1 F1 E (Or.inr ⟨(hw _ (List.mem_of_getElem? (i := 16) rfl)), rfl, hnm⟩) (hw _ (List.mem_of_getElem? (i := 7) rfl)) (ty := .long) (by decide) rfl rfl (g := (mkF m 6 #[.val (.ref a1), .val (.long q2), .second] [(.long q2), (.ref a1)])) rfl rfl (hb hby d2_6)
  have N2 := Fr.snoc X2 N0 g1
  obtain ⟨fs, hr, hrun, hended, hW, hsame⟩ := X2.leave (v := none) (fun _ => rfl) (hlocks := BodyLoose.notSynchronized Bd)
  refine ⟨_, _, pre0 _ ?_, hrun, hended, _, _, rfl, ?_, ⟨_, rfl⟩, hW, hsame.mono (by decide) (by decide)⟩
  · show Steps p.tables e below (s₁.setTop (mkF m 0 #[.val (.ref a1), .val (.long q2), .second] [])) _
    refine XS.aloadN X0.here hx rfl (hb hby d2_0) rfl rfl ?_
    show Steps p.tables e below (s₁.setTop (mkF m 1 #[.val (.ref a1), .val (.long q2), .second] [(.ref a1)])) _
    refine st1 _ ?_
    show Steps p.tables e below (T1.setTop (mkF m 4 #[.val (.ref a1), .val (.long q2), .second] [])) _
    refine XS.aloadN X1.here hx rfl (hb hby d2_4) rfl rfl ?_
    show Steps p.tables e below (T1.setTop (mkF m 5 #[.val (.ref a1), .val (.long q2), .second] [(.ref a1)])) _
    refine XS.lloadN X1.here hx rfl (hb hby d2_5) rfl ?_
    show Steps p.tables e below (T1.setTop (mkF m 6 #[.val (.ref a1), .val (.long q2), .second] [(.long q2), (.ref a1)])) _
    refine st2 _ ?_
    show Steps p.tables e below (T2.setTop (mkF m 9 #[.val (.ref a1), .val (.long q2), .second] [])) _
    exact X2.returnOut hx Bd.returns (hb hby d2_9) hr
  · show Qi Z a1 q2 un st h0 n0 _ T2.heap _
    rw [e2]
    exact ⟨rfl, N2, (Keep.refl h0 [a1]).wr W2 (Or.inl (List.mem_of_getElem? (i := 0) rfl)), E.wr W2, F1.same W2, F2.other W2 (Or.inr (slot_ne (Or.inl (hw _ (List.mem_of_getElem? (i := 23) rfl))) (Or.inr (hw _ (List.mem_of_getElem? (i := 16) rfl))) (by decide) (t := .long) (t' := .long) (by decide) (by decide))), F3.other W2 (Or.inr (slot_ne (Or.inl (hw _ (List.mem_of_getElem? (i := 29) rfl))) (Or.inr (hw _ (List.mem_of_getElem? (i := 16) rfl))) (by decide) (t := .long) (t' := .long) (by decide) (by decide)))⟩
def Qk (Z : State) (a1 : Addr) (h0 : Heap) (n0 : Nat) (v : Option Value) (h : Heap) (L : List Loc) : Prop := v = none ∧ Fr n0 L ∧ h = h0
theorem d5_0 : decode prog_23_method_4_code 0 = .ok (.aload_n 0, 1) := by decide +kernel
theorem d5_1 : decode prog_23_method_4_code 1 = .ok (.getfield 13, 3) := by decide +kernel
theorem d5_4 : decode prog_23_method_4_code 4 = .ok (.aload_n 0, 1) := by decide +kernel
theorem d5_5 : decode prog_23_method_4_code 5 = .ok (.getfield 19, 3) := by decide +kernel
theorem d5_8 : decode prog_23_method_4_code 8 = .ok (.ldc2_w 22, 3) := by decide +kernel
theorem d5_11 : decode prog_23_method_4_code 11 = .ok (.ldiv, 1) := by decide +kernel
theorem d5_12 : decode prog_23_method_4_code 12 = .ok (.ladd, 1) := by decide +kernel
theorem d5_13 : decode prog_23_method_4_code 13 = .ok (.aload_n 0, 1) := by decide +kernel
theorem d5_14 : decode prog_23_method_4_code 14 = .ok (.getfield 7, 3) := by decide +kernel
theorem d5_17 : decode prog_23_method_4_code 17 = .ok (.lcmp, 1) := by decide +kernel
theorem d5_18 : decode prog_23_method_4_code 18 = .ok (.ifCond .le 11, 3) := by decide +kernel
theorem d5_29 : decode prog_23_method_4_code 29 = .ok (.return_, 1) := by decide +kernel
theorem ef_5 (m : MethodId) (a1 : Addr) : entryFrame m #[(.ref a1)] 1 = mkF m 0 #[.val (.ref a1)] [] := by first | (simp [entryFrame, mkF, argsToLocals, Value.category]; done) | rfl
set_option maxRecDepth 65536 in
set_option maxHeartbeats 40000000 in
theorem rmK (l : Launch) (Z : State) (a0 : Array Value) (hw : ∀ d ∈ tables_1, d.before a0 Z = true) (ws : List Jvm.Cond) (a1 : Addr) (lim un st : Int64) (h0 : Heap) (n0 : Nat) (Z0 : n0 ≤ h0.size) (F1 : Fld Z h0 a1 "com/example/shared_record_log/sharedrecordlog/query/Budget" "limit" "J" (.long lim)) (F2 : Fld Z h0 a1 "com/example/shared_record_log/sharedrecordlog/query/Budget" "units" "J" (.long un)) (F3 : Fld Z h0 a1 "com/example/shared_record_log/sharedrecordlog/query/Budget" "steps" "J" (.long st)) (hle : ¬ lim < (un + (st / (1000 : Int64)))) :
    MetFree l (⟨"com/example/shared_record_log/sharedrecordlog/query/Budget", "check", "()V"⟩ : MethodName) (head1 (Jvm.Cond.code (⟨"com/example/shared_record_log/sharedrecordlog/query/Budget", "check", "()V"⟩ : MethodName) prog_23_method_4_code 1 none :: ws) ({ frames := 0, cells := 0, slots := 0, locals := 0 } : Room)) (fun a U => a = #[(.ref a1)] ∧ Z.Warmed39 U.vm ∧ U.heap = h0) (fun _ _ _ _ _ => True) (fun _ U o U' => ∃ v L, o = .returned v ∧ Qk Z a1 h0 n0 v U'.heap L ∧ FrameEnd U o U' L ({ frames := 0, cells := 0, slots := 0, locals := 0 } : Room).cells ({ frames := 0, cells := 0, slots := 0, locals := 0 } : Room).slots) := by
  refine MetFree.of_bodySF (plainFor_of_name pn_0) hisR ?_
  intro p e s m args below meth c s₁ Bd hml0 hP hK
  obtain ⟨rfl, hZ, hh⟩ := hP
  have hx := Bd.exec
  have hby := Bd.bytes
  have hml : c.maxLocals = 1 := hml0
  have hown : s.vm.findClass "com/example/shared_record_log/sharedrecordlog/query/Budget" = some m.cls := findClass_of_methodNamed Bd.named
  have hnm := (name_of_methodNamed Bd.named Bd.method).1
  have X0 : Stand p l e ({ frames := 0, cells := 0, slots := 0, locals := 0 } : Room) s m #[(.ref a1)] below meth c s₁ [] 0 0 := Stand.of_body Bd
  have e0 : s₁.heap = h0 := by rw [← hh, Bd.state]; rfl
  have N0 := Fr.nil n0
  have pre0 : ∀ t, Steps p.tables e below (s₁.setTop (mkF m 0 #[.val (.ref a1)] [])) t → Steps p.tables e below (s₁.setTop (entryFrame m #[(.ref a1)] 1)) t := fun t k => castTop (ef_5 m a1) k
  obtain ⟨T1, X1, e1, st1⟩ := getF X0 hx hZ hown (host := "") (Or.inl (hw _ (List.mem_of_getElem? (i := 22) rfl))) Via.refl e0 F2 (g := (mkF m 1 #[.val (.ref a1)] [(.ref a1)])) rfl rfl (hb hby d5_1)
  obtain ⟨T2, X2, e2, st2⟩ := getF X1 hx hZ hown (host := "") (Or.inl (hw _ (List.mem_of_getElem? (i := 28) rfl))) Via.refl e1 F3 (g := (mkF m 5 #[.val (.ref a1)] [(.ref a1), (.long un)])) rfl rfl (hb hby d5_5)
  obtain ⟨T3, X3, e3, st3⟩ := getF X2 hx hZ hown (host := "") (Or.inl (hw _ (List.mem_of_getElem? (i := 15) rfl))) Via.refl e2 F1 (g := (mkF m 14 #[.val (.ref a1)] [(.ref a1), (.long (un + (st / (1000 : Int64))))])) rfl rfl (hb hby d5_14)
  obtain ⟨fs, hr, hrun, hended, hW, hsame⟩ := X3.leave (v := none) (fun _ => rfl) (hlocks := BodyLoose.notSynchronized Bd)
  refine ⟨_, _, pre0 _ ?_, hrun, hended, _, _, rfl, ?_, ⟨_, rfl⟩, hW, hsame.mono (by decide) (by decide)⟩
  · show Steps p.tables e below (s₁.setTop (mkF m 0 #[.val (.ref a1)] [])) _
    refine XS.aloadN X0.here hx rfl (hb hby d5_0) rfl rfl ?_
    show Steps p.tables e below (s₁.setTop (mkF m 1 #[.val (.ref a1)] [(.ref a1)])) _
    refine st1 _ ?_
    show Steps p.tables e below (T1.setTop (mkF m 4 #[.val (.ref a1)] [(.long un)])) _
    refine XS.aloadN X1.here hx rfl (hb hby d5_4) rfl rfl ?_
    show Steps p.tables e below (T1.setTop (mkF m 5 #[.val (.ref a1)] [(.ref a1), (.long un)])) _
    refine st2 _ ?_
    show Steps p.tables e below (T2.setTop (mkF m 8 #[.val (.ref a1)] [(.long st), (.long un)])) _
    refine X2.ldc2Long hx hown (mvT hZ (hw _ (List.mem_of_getElem? (i := 30) rfl))) (g := (mkF m 8 #[.val (.ref a1)] [(.long st), (.long un)])) rfl (hb hby d5_8) _ ?_
    show Steps p.tables e below (T2.setTop (mkF m 11 #[.val (.ref a1)] [(.long (1000 : Int64)), (.long st), (.long un)])) _
    refine XS.ldiv X2.here hx rfl (hb hby d5_11) rfl (by decide) ?_
    show Steps p.tables e below (T2.setTop (mkF m 12 #[.val (.ref a1)] [(.long (st / (1000 : Int64))), (.long un)])) _
    refine XS.ladd X2.here hx rfl (hb hby d5_12) rfl ?_
    show Steps p.tables e below (T2.setTop (mkF m 13 #[.val (.ref a1)] [(.long (un + (st / (1000 : Int64))))])) _
    refine XS.aloadN X2.here hx rfl (hb hby d5_13) rfl rfl ?_
    show Steps p.tables e below (T2.setTop (mkF m 14 #[.val (.ref a1)] [(.ref a1), (.long (un + (st / (1000 : Int64))))])) _
    refine st3 _ ?_
    show Steps p.tables e below (T3.setTop (mkF m 17 #[.val (.ref a1)] [(.long lim), (.long (un + (st / (1000 : Int64))))])) _
    refine XS.lcmp X3.here hx rfl (hb hby d5_17) rfl ?_
    show Steps p.tables e below (T3.setTop (mkF m 18 #[.val (.ref a1)] [(.int (lcmpW (un + (st / (1000 : Int64))) lim))])) _
    refine XS.ifYes X3.here hx rfl (pc0 := 18) (pc' := 29) rfl (hb hby d5_18) rfl ((if0 _ _).trans (flt (fun z => hle ((lw_gt _ _).mp z))).2.2.2) (by decide) (by decide) ?_
    show Steps p.tables e below (T3.setTop (mkF m 29 #[.val (.ref a1)] [])) _
    exact X3.returnOut hx Bd.returns (hb hby d5_29) hr
  · show Qk Z a1 h0 n0 _ T3.heap _
    rw [e3]
    exact ⟨rfl, N0, rfl⟩
def Qp (Z : State) (a1 : Addr) (q2 lim un st : Int64) (h0 : Heap) (n0 : Nat) (v : Option Value) (h : Heap) (L : List Loc) : Prop := v = none ∧ Fr n0 L ∧ Keep h0 h [a1] ∧ Exa Z h a1 "com/example/shared_record_log/sharedrecordlog/query/Budget" ∧ Fld Z h a1 "com/example/shared_record_log/sharedrecordlog/query/Budget" "limit" "J" (.long lim) ∧ Fld Z h a1 "com/example/shared_record_log/sharedrecordlog/query/Budget" "units" "J" (.long (un + q2)) ∧ Fld Z h a1 "com/example/shared_record_log/sharedrecordlog/query/Budget" "steps" "J" (.long st)
theorem d4_0 : decode prog_23_method_2_code 0 = .ok (.aload_n 0, 1) := by decide +kernel
theorem d4_1 : decode prog_23_method_2_code 1 = .ok (.dup, 1) := by decide +kernel
theorem d4_2 : decode prog_23_method_2_code 2 = .ok (.getfield 13, 3) := by decide +kernel
theorem d4_5 : decode prog_23_method_2_code 5 = .ok (.lload_n 1, 1) := by decide +kernel
theorem d4_6 : decode prog_23_method_2_code 6 = .ok (.ladd, 1) := by decide +kernel
theorem d4_7 : decode prog_23_method_2_code 7 = .ok (.putfield 13, 3) := by decide +kernel
theorem d4_10 : decode prog_23_method_2_code 10 = .ok (.aload_n 0, 1) := by decide +kernel
theorem d4_11 : decode prog_23_method_2_code 11 = .ok (.invokevirtual 16, 3) := by decide +kernel
theorem pd_0 : parseMethodDescriptor "()V" = some ⟨[], none⟩ := by decide +kernel
theorem d4_14 : decode prog_23_method_2_code 14 = .ok (.return_, 1) := by decide +kernel
theorem ef_4 (m : MethodId) (a1 : Addr) (q2 : Int64) : entryFrame m #[(.ref a1), (.long q2)] 3 = mkF m 0 #[.val (.ref a1), .val (.long q2), .second] [] := by first | (simp [entryFrame, mkF, argsToLocals, Value.category]; done) | rfl
set_option maxRecDepth 65536 in
set_option maxHeartbeats 40000000 in
theorem rmQp (l : Launch) (Z : State) (a0 : Array Value) (hw : ∀ d ∈ tables_1, d.before a0 Z = true) (ws : List Jvm.Cond) (a1 : Addr) (q2 : Int64) (lim un st : Int64) (h0 : Heap) (n0 : Nat) (Z0 : n0 ≤ h0.size) (E : Exa Z h0 a1 "com/example/shared_record_log/sharedrecordlog/query/Budget") (F1 : Fld Z h0 a1 "com/example/shared_record_log/sharedrecordlog/query/Budget" "limit" "J" (.long lim)) (F2 : Fld Z h0 a1 "com/example/shared_record_log/sharedrecordlog/query/Budget" "units" "J" (.long un)) (F3 : Fld Z h0 a1 "com/example/shared_record_log/sharedrecordlog/query/Budget" "steps" "J" (.long st)) (g1 : n0 ≤ a1) (hle : ¬ lim < ((un + q2) + (st / (1000 : Int64)))) :
    MetFree l (⟨"com/example/shared_record_log/sharedrecordlog/query/Budget", "spend", "(J)V"⟩ : MethodName) (head1 (Jvm.Cond.code (⟨"com/example/shared_record_log/sharedrecordlog/query/Budget", "spend", "(J)V"⟩ : MethodName) prog_23_method_2_code 3 none :: ws) ({ frames := 1, cells := 0, slots := 0, locals := 12 } : Room)) (fun a U => a = #[(.ref a1), (.long q2)] ∧ Z.Warmed39 U.vm ∧ U.heap = h0) (fun _ _ _ _ _ => True) (fun _ U o U' => ∃ v L, o = .returned v ∧ Qp Z a1 q2 lim un st h0 n0 v U'.heap L ∧ FrameEnd U o U' L ({ frames := 1, cells := 0, slots := 0, locals := 12 } : Room).cells ({ frames := 1, cells := 0, slots := 0, locals := 12 } : Room).slots) := by
  refine MetFree.of_bodySF (plainFor_of_name pn_0) hisR ?_
  intro p e s m args below meth c s₁ Bd hml0 hP hK
  obtain ⟨rfl, hZ, hh⟩ := hP
  have hx := Bd.exec
  have hby := Bd.bytes
  have hml : c.maxLocals = 3 := hml0
  have hown : s.vm.findClass "com/example/shared_record_log/sharedrecordlog/query/Budget" = some m.cls := findClass_of_methodNamed Bd.named
  have hnm := (name_of_methodNamed Bd.named Bd.method).1
  have X0 : Stand p l e ({ frames := 1, cells := 0, slots := 0, locals := 12 } : Room) s m #[(.ref a1), (.long q2)] below meth c s₁ [] 0 0 := Stand.of_body Bd
  have e0 : s₁.heap = h0 := by rw [← hh, Bd.state]; rfl
  have N0 := Fr.nil n0
  have pre0 : ∀ t, Steps p.tables e below (s₁.setTop (mkF m 0 #[.val (.ref a1), .val (.long q2), .second] [])) t → Steps p.tables e below (s₁.setTop (entryFrame m #[(.ref a1), (.long q2)] 3)) t := fun t k => castTop (ef_4 m a1 q2) k
  obtain ⟨T1, X1, e1, st1⟩ := getF X0 hx hZ hown (host := "") (Or.inl (hw _ (List.mem_of_getElem? (i := 22) rfl))) Via.refl e0 F2 (g := (mkF m 2 #[.val (.ref a1), .val (.long q2), .second] [(.ref a1), (.ref a1)])) rfl rfl (hb hby d4_2)
  obtain ⟨T2, h2, X2, e2, W2, st2⟩ := putF X1 hx hZ hown (host := "") (Or.inl (hw _ (List.mem_of_getElem? (i := 22) rfl))) Via.refl e1 F2 E (Or.inl (hw _ (List.mem_of_getElem? (i := 23) rfl))) (hw _ (List.mem_of_getElem? (i := 7) rfl)) (ty := .long) (by decide) rfl rfl (g := (mkF m 7 #[.val (.ref a1), .val (.long q2), .second] [(.long (un + q2)), (.ref a1)])) rfl rfl (hb hby d4_7)
  have N2 := Fr.snoc X2 N0 g1
  have K := (Keep.refl h0 [a1]).wr W2 (Or.inl (List.mem_of_getElem? (i := 0) rfl))
  have Ea := E.wr W2
  have Fa := F1.other W2 (Or.inr (slot_ne (Or.inr (hw _ (List.mem_of_getElem? (i := 16) rfl))) (Or.inl (hw _ (List.mem_of_getElem? (i := 23) rfl))) (by decide) (t := .long) (t' := .long) (by decide) (by decide)))
  have Fb := F2.same W2
  have Fc := F3.other W2 (Or.inr (slot_ne (Or.inl (hw _ (List.mem_of_getElem? (i := 29) rfl))) (Or.inl (hw _ (List.mem_of_getElem? (i := 23) rfl))) (by decide) (t := .long) (t' := .long) (by decide) (by decide)))
  have Za : n0 ≤ h2.size := Nat.le_trans Z0 K.1
  obtain ⟨cq3, q3, q3'⟩ := (Ea).cell
  obtain ⟨_, _, ⟨T3, L3, k3, n3⟩, -, X3, ⟨Lc3, hQ3, l3, y3, z3⟩, st3⟩ := X2.privateBack hx (y := (⟨"com/example/shared_record_log/sharedrecordlog/query/Budget", "check", "()V"⟩ : MethodName)) hown (mvT hZ (hw _ (List.mem_of_getElem? (i := 24) rfl))) (mvT hZ (hw _ (List.mem_of_getElem? (i := 25) rfl))) (Jvm.Kit.selects_private (by decide) (mvT hZ (hw _ (List.mem_of_getElem? (i := 7) rfl))) (mvP hZ (hw _ (List.mem_of_getElem? (i := 26) rfl))) (mvT hZ (hw _ (List.mem_of_getElem? (i := 25) rfl)))) (Cond.privateMethod_at (mvP hZ (hw _ (List.mem_of_getElem? (i := 26) rfl)) (args := #[]))) (mvT hZ (hw _ (List.mem_of_getElem? (i := 27) rfl))) (by decide) (backOf (W := 0) (rmK l Z a0 hw [] a1 lim (un + q2) st h2 n0 Za Fa Fb Fc hle) hZ (hw _ (List.mem_of_getElem? (i := 27) rfl)) (hw _ (List.mem_of_getElem? (i := 8) rfl)) (by decide) (by decide)) (g := (mkF m 11 #[.val (.ref a1), .val (.long q2), .second] [(.ref a1)])) rfl (by rw [hml]; rfl) (Steps.refl _) (a := a1) (by rw [e2]; exact q3) q3' (argsL := []) (rest := []) (lenOf pd_0 rfl) rfl (by show 2 * 0 + _ ≤ _; exact Nat.le_of_eq rfl) (hb hby d4_11) (fun _ _ => ⟨rfl, e2, (by decide : 0 + 0 ≤ _), (by decide : 0 + 0 ≤ _)⟩)
  dsimp only [Pt.U, Pt.locs, Pt.cells, Pt.slots] at X3 l3 y3 z3 st3 hQ3
  subst l3 y3 z3
  obtain ⟨rfl, N3q, e3⟩ := hQ3
  have N3 := Fr.app N2 N3q
  obtain ⟨fs, hr, hrun, hended, hW, hsame⟩ := X3.leave (v := none) (fun _ => rfl) (hlocks := BodyLoose.notSynchronized Bd)
  refine ⟨_, _, pre0 _ ?_, hrun, hended, _, _, rfl, ?_, ⟨_, rfl⟩, hW, hsame.mono (by decide) (by decide)⟩
  · show Steps p.tables e below (s₁.setTop (mkF m 0 #[.val (.ref a1), .val (.long q2), .second] [])) _
    refine XS.aloadN X0.here hx rfl (hb hby d4_0) rfl rfl ?_
    show Steps p.tables e below (s₁.setTop (mkF m 1 #[.val (.ref a1), .val (.long q2), .second] [(.ref a1)])) _
    refine XS.dup X0.here hx rfl (hb hby d4_1) rfl rfl ?_
    show Steps p.tables e below (s₁.setTop (mkF m 2 #[.val (.ref a1), .val (.long q2), .second] [(.ref a1), (.ref a1)])) _
    refine st1 _ ?_
    show Steps p.tables e below (T1.setTop (mkF m 5 #[.val (.ref a1), .val (.long q2), .second] [(.long un), (.ref a1)])) _
    refine XS.lloadN X1.here hx rfl (hb hby d4_5) rfl ?_
    show Steps p.tables e below (T1.setTop (mkF m 6 #[.val (.ref a1), .val (.long q2), .second] [(.long q2), (.long un), (.ref a1)])) _
    refine XS.ladd X1.here hx rfl (hb hby d4_6) rfl ?_
    show Steps p.tables e below (T1.setTop (mkF m 7 #[.val (.ref a1), .val (.long q2), .second] [(.long (un + q2)), (.ref a1)])) _
    refine st2 _ ?_
    show Steps p.tables e below (T2.setTop (mkF m 10 #[.val (.ref a1), .val (.long q2), .second] [])) _
    refine XS.aloadN X2.here hx rfl (hb hby d4_10) rfl rfl ?_
    show Steps p.tables e below (T2.setTop (mkF m 11 #[.val (.ref a1), .val (.long q2), .second] [(.ref a1)])) _
    refine st3.trans ?_
    show Steps p.tables e below (T3.setTop (mkF m 14 #[.val (.ref a1), .val (.long q2), .second] [])) _
    exact X3.returnOut hx Bd.returns (hb hby d4_14) hr
  · show Qp Z a1 q2 lim un st h0 n0 _ T3.heap _
    rw [e3]
    exact ⟨rfl, N3, K, Ea, Fa, Fb, Fc⟩
def Qt (Z : State) (a1 : Addr) (q2 lim un st : Int64) (h0 : Heap) (n0 : Nat) (v : Option Value) (h : Heap) (L : List Loc) : Prop := v = none ∧ Fr n0 L ∧ Keep h0 h [a1] ∧ Exa Z h a1 "com/example/shared_record_log/sharedrecordlog/query/Budget" ∧ Fld Z h a1 "com/example/shared_record_log/sharedrecordlog/query/Budget" "limit" "J" (.long lim) ∧ Fld Z h a1 "com/example/shared_record_log/sharedrecordlog/query/Budget" "units" "J" (.long un) ∧ Fld Z h a1 "com/example/shared_record_log/sharedrecordlog/query/Budget" "steps" "J" (.long (st + q2))
theorem d6_0 : decode prog_23_method_3_code 0 = .ok (.aload_n 0, 1) := by decide +kernel
theorem d6_1 : decode prog_23_method_3_code 1 = .ok (.dup, 1) := by decide +kernel
theorem d6_2 : decode prog_23_method_3_code 2 = .ok (.getfield 19, 3) := by decide +kernel
theorem d6_5 : decode prog_23_method_3_code 5 = .ok (.lload_n 1, 1) := by decide +kernel
theorem d6_6 : decode prog_23_method_3_code 6 = .ok (.ladd, 1) := by decide +kernel
theorem d6_7 : decode prog_23_method_3_code 7 = .ok (.putfield 19, 3) := by decide +kernel
theorem d6_10 : decode prog_23_method_3_code 10 = .ok (.aload_n 0, 1) := by decide +kernel
theorem d6_11 : decode prog_23_method_3_code 11 = .ok (.invokevirtual 16, 3) := by decide +kernel
theorem d6_14 : decode prog_23_method_3_code 14 = .ok (.return_, 1) := by decide +kernel
theorem ef_6 (m : MethodId) (a1 : Addr) (q2 : Int64) : entryFrame m #[(.ref a1), (.long q2)] 3 = mkF m 0 #[.val (.ref a1), .val (.long q2), .second] [] := by first | (simp [entryFrame, mkF, argsToLocals, Value.category]; done) | rfl
set_option maxRecDepth 65536 in
set_option maxHeartbeats 40000000 in
theorem rmQt (l : Launch) (Z : State) (a0 : Array Value) (hw : ∀ d ∈ tables_1, d.before a0 Z = true) (ws : List Jvm.Cond) (a1 : Addr) (q2 : Int64) (lim un st : Int64) (h0 : Heap) (n0 : Nat) (Z0 : n0 ≤ h0.size) (E : Exa Z h0 a1 "com/example/shared_record_log/sharedrecordlog/query/Budget") (F1 : Fld Z h0 a1 "com/example/shared_record_log/sharedrecordlog/query/Budget" "limit" "J" (.long lim)) (F2 : Fld Z h0 a1 "com/example/shared_record_log/sharedrecordlog/query/Budget" "units" "J" (.long un)) (F3 : Fld Z h0 a1 "com/example/shared_record_log/sharedrecordlog/query/Budget" "steps" "J" (.long st)) (g1 : n0 ≤ a1) (hle : ¬ lim < (un + ((st + q2) / (1000 : Int64)))) :
    MetFree l (⟨"com/example/shared_record_log/sharedrecordlog/query/Budget", "spendSteps", "(J)V"⟩ : MethodName) (head1 (Jvm.Cond.code (⟨"com/example/shared_record_log/sharedrecordlog/query/Budget", "spendSteps", "(J)V"⟩ : MethodName) prog_23_method_3_code 3 none :: ws) ({ frames := 1, cells := 0, slots := 0, locals := 12 } : Room)) (fun a U => a = #[(.ref a1), (.long q2)] ∧ Z.Warmed39 U.vm ∧ U.heap = h0) (fun _ _ _ _ _ => True) (fun _ U o U' => ∃ v L, o = .returned v ∧ Qt Z a1 q2 lim un st h0 n0 v U'.heap L ∧ FrameEnd U o U' L ({ frames := 1, cells := 0, slots := 0, locals := 12 } : Room).cells ({ frames := 1, cells := 0, slots := 0, locals := 12 } : Room).slots) := by
  refine MetFree.of_bodySF (plainFor_of_name pn_0) hisR ?_
  intro p e s m args below meth c s₁ Bd hml0 hP hK
  obtain ⟨rfl, hZ, hh⟩ := hP
  have hx := Bd.exec
  have hby := Bd.bytes
  have hml : c.maxLocals = 3 := hml0
  have hown : s.vm.findClass "com/example/shared_record_log/sharedrecordlog/query/Budget" = some m.cls := findClass_of_methodNamed Bd.named
  have hnm := (name_of_methodNamed Bd.named Bd.method).1
  have X0 : Stand p l e ({ frames := 1, cells := 0, slots := 0, locals := 12 } : Room) s m #[(.ref a1), (.long q2)] below meth c s₁ [] 0 0 := Stand.of_body Bd
  have e0 : s₁.heap = h0 := by rw [← hh, Bd.state]; rfl
  have N0 := Fr.nil n0
  have pre0 : ∀ t, Steps p.tables e below (s₁.setTop (mkF m 0 #[.val (.ref a1), .val (.long q2), .second] [])) t → Steps p.tables e below (s₁.setTop (entryFrame m #[(.ref a1), (.long q2)] 3)) t := fun t k => castTop (ef_6 m a1 q2) k
  obtain ⟨T1, X1, e1, st1⟩ := getF X0 hx hZ hown (host := "") (Or.inl (hw _ (List.mem_of_getElem? (i := 28) rfl))) Via.refl e0 F3 (g := (mkF m 2 #[.val (.ref a1), .val (.long q2), .second] [(.ref a1), (.ref a1)])) rfl rfl (hb hby d6_2)
  obtain ⟨T2, h2, X2, e2, W2, st2⟩ := putF X1 hx hZ hown (host := "") (Or.inl (hw _ (List.mem_of_getElem? (i := 28) rfl))) Via.refl e1 F3 E (Or.inl (hw _ (List.mem_of_getElem? (i := 29) rfl))) (hw _ (List.mem_of_getElem? (i := 7) rfl)) (ty := .long) (by decide) rfl rfl (g := (mkF m 7 #[.val (.ref a1), .val (.long q2), .second] [(.long (st + q2)), (.ref a1)])) rfl rfl (hb hby d6_7)
  have N2 := Fr.snoc X2 N0 g1
  have K := (Keep.refl h0 [a1]).wr W2 (Or.inl (List.mem_of_getElem? (i := 0) rfl))
  have Ea := E.wr W2
  have Fa := F1.other W2 (Or.inr (slot_ne (Or.inr (hw _ (List.mem_of_getElem? (i := 16) rfl))) (Or.inl (hw _ (List.mem_of_getElem? (i := 29) rfl))) (by decide) (t := .long) (t' := .long) (by decide) (by decide)))
  have Fb := F3.same W2
  have Fc := F2.other W2 (Or.inr (slot_ne (Or.inl (hw _ (List.mem_of_getElem? (i := 23) rfl))) (Or.inl (hw _ (List.mem_of_getElem? (i := 29) rfl))) (by decide) (t := .long) (t' := .long) (by decide) (by decide)))
  have Za : n0 ≤ h2.size := Nat.le_trans Z0 K.1
  obtain ⟨cq3, q3, q3'⟩ := (Ea).cell
  obtain ⟨_, _, ⟨T3, L3, k3, n3⟩, -, X3, ⟨Lc3, hQ3, l3, y3, z3⟩, st3⟩ := X2.privateBack hx (y := (⟨"com/example/shared_record_log/sharedrecordlog/query/Budget", "check", "()V"⟩ : MethodName)) hown (mvT hZ (hw _ (List.mem_of_getElem? (i := 24) rfl))) (mvT hZ (hw _ (List.mem_of_getElem? (i := 25) rfl))) (Jvm.Kit.selects_private (by decide) (mvT hZ (hw _ (List.mem_of_getElem? (i := 7) rfl))) (mvP hZ (hw _ (List.mem_of_getElem? (i := 26) rfl))) (mvT hZ (hw _ (List.mem_of_getElem? (i := 25) rfl)))) (Cond.privateMethod_at (mvP hZ (hw _ (List.mem_of_getElem? (i := 26) rfl)) (args := #[]))) (mvT hZ (hw _ (List.mem_of_getElem? (i := 27) rfl))) (by decide) (backOf (W := 0) (rmK l Z a0 hw [] a1 lim un (st + q2) h2 n0 Za Fa Fc Fb hle) hZ (hw _ (List.mem_of_getElem? (i := 27) rfl)) (hw _ (List.mem_of_getElem? (i := 8) rfl)) (by decide) (by decide)) (g := (mkF m 11 #[.val (.ref a1), .val (.long q2), .second] [(.ref a1)])) rfl (by rw [hml]; rfl) (Steps.refl _) (a := a1) (by rw [e2]; exact q3) q3' (argsL := []) (rest := []) (lenOf pd_0 rfl) rfl (by show 2 * 0 + _ ≤ _; exact Nat.le_of_eq rfl) (hb hby d6_11) (fun _ _ => ⟨rfl, e2, (by decide : 0 + 0 ≤ _), (by decide : 0 + 0 ≤ _)⟩)
  dsimp only [Pt.U, Pt.locs, Pt.cells, Pt.slots] at X3 l3 y3 z3 st3 hQ3
  subst l3 y3 z3
  obtain ⟨rfl, N3q, e3⟩ := hQ3
  have N3 := Fr.app N2 N3q
  obtain ⟨fs, hr, hrun, hended, hW, hsame⟩ := X3.leave (v := none) (fun _ => rfl) (hlocks := BodyLoose.notSynchronized Bd)
  refine ⟨_, _, pre0 _ ?_, hrun, hended, _, _, rfl, ?_, ⟨_, rfl⟩, hW, hsame.mono (by decide) (by decide)⟩
  · show Steps p.tables e below (s₁.setTop (mkF m 0 #[.val (.ref a1), .val (.long q2), .second] [])) _
    refine XS.aloadN X0.here hx rfl (hb hby d6_0) rfl rfl ?_
    show Steps p.tables e below (s₁.setTop (mkF m 1 #[.val (.ref a1), .val (.long q2), .second] [(.ref a1)])) _
    refine XS.dup X0.here hx rfl (hb hby d6_1) rfl rfl ?_
    show Steps p.tables e below (s₁.setTop (mkF m 2 #[.val (.ref a1), .val (.long q2), .second] [(.ref a1), (.ref a1)])) _
    refine st1 _ ?_
    show Steps p.tables e below (T1.setTop (mkF m 5 #[.val (.ref a1), .val (.long q2), .second] [(.long st), (.ref a1)])) _
    refine XS.lloadN X1.here hx rfl (hb hby d6_5) rfl ?_
    show Steps p.tables e below (T1.setTop (mkF m 6 #[.val (.ref a1), .val (.long q2), .second] [(.long q2), (.long st), (.ref a1)])) _
    refine XS.ladd X1.here hx rfl (hb hby d6_6) rfl ?_
    show Steps p.tables e below (T1.setTop (mkF m 7 #[.val (.ref a1), .val (.long q2), .second] [(.long (st + q2)), (.ref a1)])) _
    refine st2 _ ?_
    show Steps p.tables e below (T2.setTop (mkF m 10 #[.val (.ref a1), .val (.long q2), .second] [])) _
    refine XS.aloadN X2.here hx rfl (hb hby d6_10) rfl rfl ?_
    show Steps p.tables e below (T2.setTop (mkF m 11 #[.val (.ref a1), .val (.long q2), .second] [(.ref a1)])) _
    refine st3.trans ?_
    show Steps p.tables e below (T3.setTop (mkF m 14 #[.val (.ref a1), .val (.long q2), .second] [])) _
    exact X3.returnOut hx Bd.returns (hb hby d6_14) hr
  · show Qt Z a1 q2 lim un st h0 n0 _ T3.heap _
    rw [e3]
    exact ⟨rfl, N3, K, Ea, Fa, Fc, Fb⟩
def Q0 (Z : State) (x1 y1 : Int64) (z1 w1 : Int32) (h0 : Heap) (n0 : Nat) (v : Option Value) (h : Heap) (L : List Loc) : Prop := v = some (.int (1 : Int32)) ∧ Fr n0 L
theorem pd_1 : parseMethodDescriptor "(JJ)J" = some ⟨[.long, .long], some .long⟩ := by decide +kernel
theorem pd_2 : parseMethodDescriptor "(J)V" = some ⟨[.long], none⟩ := by decide +kernel
theorem ef_0 (m : MethodId) (x1 : Int64) (y1 : Int64) (z1 : Int32) (w1 : Int32) : entryFrame m #[(.long x1), (.long y1), (.int z1), (.int w1)] maxLocals = mkF m 0 #[.val (.long x1), .second, .val (.long y1), .second, .val (.int z1), .val (.int w1), .unset, .unset, .unset, .unset, .unset, .unset, .unset, .unset, .unset, .unset, .unset, .unset, .unset] [] := by first | (simp [entryFrame, mkF, argsToLocals, Value.category, maxLocals]; done) | rfl
theorem pn_1 : plainName "com/example/shared_record_log/sharedrecordlog/query/BudgetSpendPinLaw" = true := by first | (simp [plainName, overriddenIn]; done) | decide +kernel
set_option maxRecDepth 65536 in
set_option maxHeartbeats 40000000 in
theorem rm0 (l : Launch) (Z : State) (a0 : Array Value) (hw : ∀ d ∈ tables_1, d.before a0 Z = true) (ws : List Jvm.Cond) (x1 : Int64) (y1 : Int64) (z1 : Int32) (w1 : Int32)  (h0 : Heap) (n0 : Nat) (Z0 : n0 ≤ h0.size)  :
    MetFree l x (head1 (Jvm.Cond.code x code maxLocals ret :: ws) room_1) (fun a U => a = #[(.long x1), (.long y1), (.int z1), (.int w1)] ∧ Z.Warmed39 U.vm ∧ U.heap = h0) (fun _ _ _ _ _ => True) (fun _ U o U' => ∃ v L, o = .returned v ∧ Q0 Z x1 y1 z1 w1 h0 n0 v U'.heap L ∧ FrameEnd U o U' L room_1.cells room_1.slots) := by
  refine MetFree.of_bodySF (plainFor_of_name pn_1) hisR ?_
  intro p e s m args below meth c s₁ Bd hml0 hP hK
  obtain ⟨rfl, hZ, hh⟩ := hP
  have hx := Bd.exec
  have hby := Bd.bytes
  have hml : c.maxLocals = 19 := hml0
  have hown : s.vm.findClass "com/example/shared_record_log/sharedrecordlog/query/BudgetSpendPinLaw" = some m.cls := findClass_of_methodNamed Bd.named
  have hnm := (name_of_methodNamed Bd.named Bd.method).1
  have X0 : Stand p l e room_1 s m #[(.long x1), (.long y1), (.int z1), (.int w1)] below meth c s₁ [] 0 0 := Stand.of_body Bd
  have e0 : s₁.heap = h0 := by rw [← hh, Bd.state]; rfl
  have N0 := Fr.nil n0
  have pre0 : ∀ t, Steps p.tables e below (s₁.setTop (mkF m 0 #[.val (.long x1), .second, .val (.long y1), .second, .val (.int z1), .val (.int w1), .unset, .unset, .unset, .unset, .unset, .unset, .unset, .unset, .unset, .unset, .unset, .unset, .unset] [])) t → Steps p.tables e below (s₁.setTop (entryFrame m #[(.long x1), (.long y1), (.int z1), (.int w1)] maxLocals)) t := fun t k => castTop (ef_0 m x1 y1 z1 w1) k
  obtain ⟨lim, e_lim⟩ : ∃ z : Int64, z = (x1 >>> ((2 : Int32) &&& 0x3f).toInt64) := ⟨_, rfl⟩
  obtain ⟨tq, e_tq⟩ : ∃ z : Int64, z = ((z1 &&& (1048575 : Int32)).toInt64) := ⟨_, rfl⟩
  obtain ⟨su, e_su⟩ : ∃ z : Int64, z = tq / (1000 : Int64) := ⟨_, rfl⟩
  have pre1 : ∀ t, Steps p.tables e below (s₁.setTop (mkF m 21 #[.val (.long x1), .second, .val (.long y1), .second, .val (.int z1), .val (.int w1), .val (.long lim), .second, .val (.long tq), .second, .val (.long su), .second, .unset, .unset, .unset, .unset, .unset, .unset, .unset] [])) t → Steps p.tables e below (s₁.setTop (entryFrame m #[(.long x1), (.long y1), (.int z1), (.int w1)] maxLocals)) t := by
    intro t k
    subst e_lim
    subst e_tq
    subst e_su
    refine pre0 t ?_
    show Steps p.tables e below (s₁.setTop (mkF m 0 #[.val (.long x1), .second, .val (.long y1), .second, .val (.int z1), .val (.int w1), .unset, .unset, .unset, .unset, .unset, .unset, .unset, .unset, .unset, .unset, .unset, .unset, .unset] [])) _
    refine XS.lloadN X0.here hx rfl (hb hby at_0) rfl ?_
    show Steps p.tables e below (s₁.setTop (mkF m 1 #[.val (.long x1), .second, .val (.long y1), .second, .val (.int z1), .val (.int w1), .unset, .unset, .unset, .unset, .unset, .unset, .unset, .unset, .unset, .unset, .unset, .unset, .unset] [(.long x1)])) _
    refine XS.iconst X0.here hx rfl (hb hby at_1) ?_
    show Steps p.tables e below (s₁.setTop (mkF m 2 #[.val (.long x1), .second, .val (.long y1), .second, .val (.int z1), .val (.int w1), .unset, .unset, .unset, .unset, .unset, .unset, .unset, .unset, .unset, .unset, .unset, .unset, .unset] [(.int (2 : Int32)), (.long x1)])) _
    refine XS.lshr X0.here hx rfl (hb hby at_2) rfl ?_
    show Steps p.tables e below (s₁.setTop (mkF m 3 #[.val (.long x1), .second, .val (.long y1), .second, .val (.int z1), .val (.int w1), .unset, .unset, .unset, .unset, .unset, .unset, .unset, .unset, .unset, .unset, .unset, .unset, .unset] [(.long (x1 >>> ((2 : Int32) &&& 0x3f).toInt64))])) _
    refine XS.lstore X0.here hx rfl (hb hby at_3) rfl (l' := #[.val (.long x1), .second, .val (.long y1), .second, .val (.int z1), .val (.int w1), .val (.long (x1 >>> ((2 : Int32) &&& 0x3f).toInt64)), .second, .unset, .unset, .unset, .unset, .unset, .unset, .unset, .unset, .unset, .unset, .unset]) rfl ?_
    show Steps p.tables e below (s₁.setTop (mkF m 5 #[.val (.long x1), .second, .val (.long y1), .second, .val (.int z1), .val (.int w1), .val (.long (x1 >>> ((2 : Int32) &&& 0x3f).toInt64)), .second, .unset, .unset, .unset, .unset, .unset, .unset, .unset, .unset, .unset, .unset, .unset] [])) _
    refine XS.iload X0.here hx rfl (hb hby at_5) rfl ?_
    show Steps p.tables e below (s₁.setTop (mkF m 7 #[.val (.long x1), .second, .val (.long y1), .second, .val (.int z1), .val (.int w1), .val (.long (x1 >>> ((2 : Int32) &&& 0x3f).toInt64)), .second, .unset, .unset, .unset, .unset, .unset, .unset, .unset, .unset, .unset, .unset, .unset] [(.int z1)])) _
    refine X0.ldcInt hx hown (mvT hZ (hw _ (List.mem_of_getElem? (i := 0) rfl))) (g := (mkF m 7 #[.val (.long x1), .second, .val (.long y1), .second, .val (.int z1), .val (.int w1), .val (.long (x1 >>> ((2 : Int32) &&& 0x3f).toInt64)), .second, .unset, .unset, .unset, .unset, .unset, .unset, .unset, .unset, .unset, .unset, .unset] [(.int z1)])) rfl (hb hby at_7) _ ?_
    show Steps p.tables e below (s₁.setTop (mkF m 9 #[.val (.long x1), .second, .val (.long y1), .second, .val (.int z1), .val (.int w1), .val (.long (x1 >>> ((2 : Int32) &&& 0x3f).toInt64)), .second, .unset, .unset, .unset, .unset, .unset, .unset, .unset, .unset, .unset, .unset, .unset] [(.int (1048575 : Int32)), (.int z1)])) _
    refine XS.iand X0.here hx rfl (hb hby at_9) rfl ?_
    show Steps p.tables e below (s₁.setTop (mkF m 10 #[.val (.long x1), .second, .val (.long y1), .second, .val (.int z1), .val (.int w1), .val (.long (x1 >>> ((2 : Int32) &&& 0x3f).toInt64)), .second, .unset, .unset, .unset, .unset, .unset, .unset, .unset, .unset, .unset, .unset, .unset] [(.int (z1 &&& (1048575 : Int32)))])) _
    refine XS.i2l X0.here hx rfl (hb hby at_10) rfl ?_
    show Steps p.tables e below (s₁.setTop (mkF m 11 #[.val (.long x1), .second, .val (.long y1), .second, .val (.int z1), .val (.int w1), .val (.long (x1 >>> ((2 : Int32) &&& 0x3f).toInt64)), .second, .unset, .unset, .unset, .unset, .unset, .unset, .unset, .unset, .unset, .unset, .unset] [(.long ((z1 &&& (1048575 : Int32)).toInt64))])) _
    refine XS.lstore X0.here hx rfl (hb hby at_11) rfl (l' := #[.val (.long x1), .second, .val (.long y1), .second, .val (.int z1), .val (.int w1), .val (.long (x1 >>> ((2 : Int32) &&& 0x3f).toInt64)), .second, .val (.long ((z1 &&& (1048575 : Int32)).toInt64)), .second, .unset, .unset, .unset, .unset, .unset, .unset, .unset, .unset, .unset]) rfl ?_
    show Steps p.tables e below (s₁.setTop (mkF m 13 #[.val (.long x1), .second, .val (.long y1), .second, .val (.int z1), .val (.int w1), .val (.long (x1 >>> ((2 : Int32) &&& 0x3f).toInt64)), .second, .val (.long ((z1 &&& (1048575 : Int32)).toInt64)), .second, .unset, .unset, .unset, .unset, .unset, .unset, .unset, .unset, .unset] [])) _
    refine XS.lload X0.here hx rfl (hb hby at_13) rfl ?_
    show Steps p.tables e below (s₁.setTop (mkF m 15 #[.val (.long x1), .second, .val (.long y1), .second, .val (.int z1), .val (.int w1), .val (.long (x1 >>> ((2 : Int32) &&& 0x3f).toInt64)), .second, .val (.long ((z1 &&& (1048575 : Int32)).toInt64)), .second, .unset, .unset, .unset, .unset, .unset, .unset, .unset, .unset, .unset] [(.long ((z1 &&& (1048575 : Int32)).toInt64))])) _
    refine X0.ldc2Long hx hown (mvT hZ (hw _ (List.mem_of_getElem? (i := 1) rfl))) (g := (mkF m 15 #[.val (.long x1), .second, .val (.long y1), .second, .val (.int z1), .val (.int w1), .val (.long (x1 >>> ((2 : Int32) &&& 0x3f).toInt64)), .second, .val (.long ((z1 &&& (1048575 : Int32)).toInt64)), .second, .unset, .unset, .unset, .unset, .unset, .unset, .unset, .unset, .unset] [(.long ((z1 &&& (1048575 : Int32)).toInt64))])) rfl (hb hby at_15) _ ?_
    show Steps p.tables e below (s₁.setTop (mkF m 18 #[.val (.long x1), .second, .val (.long y1), .second, .val (.int z1), .val (.int w1), .val (.long (x1 >>> ((2 : Int32) &&& 0x3f).toInt64)), .second, .val (.long ((z1 &&& (1048575 : Int32)).toInt64)), .second, .unset, .unset, .unset, .unset, .unset, .unset, .unset, .unset, .unset] [(.long (1000 : Int64)), (.long ((z1 &&& (1048575 : Int32)).toInt64))])) _
    refine XS.ldiv X0.here hx rfl (hb hby at_18) rfl (by decide) ?_
    show Steps p.tables e below (s₁.setTop (mkF m 19 #[.val (.long x1), .second, .val (.long y1), .second, .val (.int z1), .val (.int w1), .val (.long (x1 >>> ((2 : Int32) &&& 0x3f).toInt64)), .second, .val (.long ((z1 &&& (1048575 : Int32)).toInt64)), .second, .unset, .unset, .unset, .unset, .unset, .unset, .unset, .unset, .unset] [(.long (((z1 &&& (1048575 : Int32)).toInt64) / (1000 : Int64)))])) _
    refine XS.lstore X0.here hx rfl (hb hby at_19) rfl (l' := #[.val (.long x1), .second, .val (.long y1), .second, .val (.int z1), .val (.int w1), .val (.long (x1 >>> ((2 : Int32) &&& 0x3f).toInt64)), .second, .val (.long ((z1 &&& (1048575 : Int32)).toInt64)), .second, .val (.long (((z1 &&& (1048575 : Int32)).toInt64) / (1000 : Int64))), .second, .unset, .unset, .unset, .unset, .unset, .unset, .unset]) rfl ?_
    exact k
  obtain ⟨_, _, ⟨T2, L2, k2, n2⟩, -, X2, ⟨Lc2, hQ2, l2, y2, z2⟩, st2⟩ := Jvm.LawKit.callS X0 hx (y := (⟨"java/lang/Math", "min", "(JJ)J"⟩ : MethodName)) hown (mvT hZ (hw _ (List.mem_of_getElem? (i := 2) rfl))) (mvT hZ (hw _ (List.mem_of_getElem? (i := 3) rfl))) (mvT hZ (hw _ (List.mem_of_getElem? (i := 4) rfl))) (mvT hZ (hw _ (List.mem_of_getElem? (i := 5) rfl))) (by decide) (backOf (W := 0) (rmM l Z a0 hw [] (y1 >>> ((2 : Int32) &&& 0x3f).toInt64) (lim - su) h0 n0 Z0) hZ (hw _ (List.mem_of_getElem? (i := 5) rfl)) (hw _ (List.mem_of_getElem? (i := 4) rfl)) (by decide) (by decide)) (g := (mkF m 29 #[.val (.long x1), .second, .val (.long y1), .second, .val (.int z1), .val (.int w1), .val (.long lim), .second, .val (.long tq), .second, .val (.long su), .second, .unset, .unset, .unset, .unset, .unset, .unset, .unset] [(.long (lim - su)), (.long (y1 >>> ((2 : Int32) &&& 0x3f).toInt64))])) rfl (by rw [hml]; rfl) (argsL := [(.long (y1 >>> ((2 : Int32) &&& 0x3f).toInt64)), (.long (lim - su))]) (rest := []) (lenOf pd_1 rfl) rfl (by show 2 * 0 + _ ≤ _; exact Nat.le_of_eq rfl) (hb hby at_29) (fun _ _ => ⟨rfl, e0, (by decide : 0 + 0 ≤ _), (by decide : 0 + 0 ≤ _)⟩)
  dsimp only [Pt.U, Pt.locs, Pt.cells, Pt.slots] at X2 l2 y2 z2 st2 hQ2
  subst l2 y2 z2
  obtain ⟨⟨a, rfl, ha⟩, N2q, e2⟩ := hQ2
  have N2 := Fr.app N0 N2q
  obtain ⟨d, e_d⟩ : ∃ z : Int64, z = ((w1 &&& (3 : Int32)).toInt64) := ⟨_, rfl⟩
  obtain ⟨b, e_b⟩ : ∃ z : Int64, z = ((lim - a) - su) - d := ⟨_, rfl⟩
  have pre3 : ∀ t, Steps p.tables e below (T2.setTop (mkF m 54 #[.val (.long x1), .second, .val (.long y1), .second, .val (.int z1), .val (.int w1), .val (.long lim), .second, .val (.long tq), .second, .val (.long su), .second, .val (.long a), .second, .val (.long d), .second, .val (.long b), .second, .unset] [])) t → Steps p.tables e below (s₁.setTop (entryFrame m #[(.long x1), (.long y1), (.int z1), (.int w1)] maxLocals)) t := by
    intro t k
    subst e_d
    subst e_b
    refine pre1 t ?_
    show Steps p.tables e below (s₁.setTop (mkF m 21 #[.val (.long x1), .second, .val (.long y1), .second, .val (.int z1), .val (.int w1), .val (.long lim), .second, .val (.long tq), .second, .val (.long su), .second, .unset, .unset, .unset, .unset, .unset, .unset, .unset] [])) _
    refine XS.lloadN X0.here hx rfl (hb hby at_21) rfl ?_
    show Steps p.tables e below (s₁.setTop (mkF m 22 #[.val (.long x1), .second, .val (.long y1), .second, .val (.int z1), .val (.int w1), .val (.long lim), .second, .val (.long tq), .second, .val (.long su), .second, .unset, .unset, .unset, .unset, .unset, .unset, .unset] [(.long y1)])) _
    refine XS.iconst X0.here hx rfl (hb hby at_22) ?_
    show Steps p.tables e below (s₁.setTop (mkF m 23 #[.val (.long x1), .second, .val (.long y1), .second, .val (.int z1), .val (.int w1), .val (.long lim), .second, .val (.long tq), .second, .val (.long su), .second, .unset, .unset, .unset, .unset, .unset, .unset, .unset] [(.int (2 : Int32)), (.long y1)])) _
    refine XS.lshr X0.here hx rfl (hb hby at_23) rfl ?_
    show Steps p.tables e below (s₁.setTop (mkF m 24 #[.val (.long x1), .second, .val (.long y1), .second, .val (.int z1), .val (.int w1), .val (.long lim), .second, .val (.long tq), .second, .val (.long su), .second, .unset, .unset, .unset, .unset, .unset, .unset, .unset] [(.long (y1 >>> ((2 : Int32) &&& 0x3f).toInt64))])) _
    refine XS.lload X0.here hx rfl (hb hby at_24) rfl ?_
    show Steps p.tables e below (s₁.setTop (mkF m 26 #[.val (.long x1), .second, .val (.long y1), .second, .val (.int z1), .val (.int w1), .val (.long lim), .second, .val (.long tq), .second, .val (.long su), .second, .unset, .unset, .unset, .unset, .unset, .unset, .unset] [(.long lim), (.long (y1 >>> ((2 : Int32) &&& 0x3f).toInt64))])) _
    refine XS.lload X0.here hx rfl (hb hby at_26) rfl ?_
    show Steps p.tables e below (s₁.setTop (mkF m 28 #[.val (.long x1), .second, .val (.long y1), .second, .val (.int z1), .val (.int w1), .val (.long lim), .second, .val (.long tq), .second, .val (.long su), .second, .unset, .unset, .unset, .unset, .unset, .unset, .unset] [(.long su), (.long lim), (.long (y1 >>> ((2 : Int32) &&& 0x3f).toInt64))])) _
    refine XS.lsub X0.here hx rfl (hb hby at_28) rfl ?_
    show Steps p.tables e below (s₁.setTop (mkF m 29 #[.val (.long x1), .second, .val (.long y1), .second, .val (.int z1), .val (.int w1), .val (.long lim), .second, .val (.long tq), .second, .val (.long su), .second, .unset, .unset, .unset, .unset, .unset, .unset, .unset] [(.long (lim - su)), (.long (y1 >>> ((2 : Int32) &&& 0x3f).toInt64))])) _
    refine st2 _ ?_
    show Steps p.tables e below (T2.setTop (mkF m 32 #[.val (.long x1), .second, .val (.long y1), .second, .val (.int z1), .val (.int w1), .val (.long lim), .second, .val (.long tq), .second, .val (.long su), .second, .unset, .unset, .unset, .unset, .unset, .unset, .unset] [(.long a)])) _
    refine XS.lstore X2.here hx rfl (hb hby at_32) rfl (l' := #[.val (.long x1), .second, .val (.long y1), .second, .val (.int z1), .val (.int w1), .val (.long lim), .second, .val (.long tq), .second, .val (.long su), .second, .val (.long a), .second, .unset, .unset, .unset, .unset, .unset]) rfl ?_
    show Steps p.tables e below (T2.setTop (mkF m 34 #[.val (.long x1), .second, .val (.long y1), .second, .val (.int z1), .val (.int w1), .val (.long lim), .second, .val (.long tq), .second, .val (.long su), .second, .val (.long a), .second, .unset, .unset, .unset, .unset, .unset] [])) _
    refine XS.iload X2.here hx rfl (hb hby at_34) rfl ?_
    show Steps p.tables e below (T2.setTop (mkF m 36 #[.val (.long x1), .second, .val (.long y1), .second, .val (.int z1), .val (.int w1), .val (.long lim), .second, .val (.long tq), .second, .val (.long su), .second, .val (.long a), .second, .unset, .unset, .unset, .unset, .unset] [(.int w1)])) _
    refine XS.iconst X2.here hx rfl (hb hby at_36) ?_
    show Steps p.tables e below (T2.setTop (mkF m 37 #[.val (.long x1), .second, .val (.long y1), .second, .val (.int z1), .val (.int w1), .val (.long lim), .second, .val (.long tq), .second, .val (.long su), .second, .val (.long a), .second, .unset, .unset, .unset, .unset, .unset] [(.int (3 : Int32)), (.int w1)])) _
    refine XS.iand X2.here hx rfl (hb hby at_37) rfl ?_
    show Steps p.tables e below (T2.setTop (mkF m 38 #[.val (.long x1), .second, .val (.long y1), .second, .val (.int z1), .val (.int w1), .val (.long lim), .second, .val (.long tq), .second, .val (.long su), .second, .val (.long a), .second, .unset, .unset, .unset, .unset, .unset] [(.int (w1 &&& (3 : Int32)))])) _
    refine XS.i2l X2.here hx rfl (hb hby at_38) rfl ?_
    show Steps p.tables e below (T2.setTop (mkF m 39 #[.val (.long x1), .second, .val (.long y1), .second, .val (.int z1), .val (.int w1), .val (.long lim), .second, .val (.long tq), .second, .val (.long su), .second, .val (.long a), .second, .unset, .unset, .unset, .unset, .unset] [(.long ((w1 &&& (3 : Int32)).toInt64))])) _
    refine XS.lstore X2.here hx rfl (hb hby at_39) rfl (l' := #[.val (.long x1), .second, .val (.long y1), .second, .val (.int z1), .val (.int w1), .val (.long lim), .second, .val (.long tq), .second, .val (.long su), .second, .val (.long a), .second, .val (.long ((w1 &&& (3 : Int32)).toInt64)), .second, .unset, .unset, .unset]) rfl ?_
    show Steps p.tables e below (T2.setTop (mkF m 41 #[.val (.long x1), .second, .val (.long y1), .second, .val (.int z1), .val (.int w1), .val (.long lim), .second, .val (.long tq), .second, .val (.long su), .second, .val (.long a), .second, .val (.long ((w1 &&& (3 : Int32)).toInt64)), .second, .unset, .unset, .unset] [])) _
    refine XS.lload X2.here hx rfl (hb hby at_41) rfl ?_
    show Steps p.tables e below (T2.setTop (mkF m 43 #[.val (.long x1), .second, .val (.long y1), .second, .val (.int z1), .val (.int w1), .val (.long lim), .second, .val (.long tq), .second, .val (.long su), .second, .val (.long a), .second, .val (.long ((w1 &&& (3 : Int32)).toInt64)), .second, .unset, .unset, .unset] [(.long lim)])) _
    refine XS.lload X2.here hx rfl (hb hby at_43) rfl ?_
    show Steps p.tables e below (T2.setTop (mkF m 45 #[.val (.long x1), .second, .val (.long y1), .second, .val (.int z1), .val (.int w1), .val (.long lim), .second, .val (.long tq), .second, .val (.long su), .second, .val (.long a), .second, .val (.long ((w1 &&& (3 : Int32)).toInt64)), .second, .unset, .unset, .unset] [(.long a), (.long lim)])) _
    refine XS.lsub X2.here hx rfl (hb hby at_45) rfl ?_
    show Steps p.tables e below (T2.setTop (mkF m 46 #[.val (.long x1), .second, .val (.long y1), .second, .val (.int z1), .val (.int w1), .val (.long lim), .second, .val (.long tq), .second, .val (.long su), .second, .val (.long a), .second, .val (.long ((w1 &&& (3 : Int32)).toInt64)), .second, .unset, .unset, .unset] [(.long (lim - a))])) _
    refine XS.lload X2.here hx rfl (hb hby at_46) rfl ?_
    show Steps p.tables e below (T2.setTop (mkF m 48 #[.val (.long x1), .second, .val (.long y1), .second, .val (.int z1), .val (.int w1), .val (.long lim), .second, .val (.long tq), .second, .val (.long su), .second, .val (.long a), .second, .val (.long ((w1 &&& (3 : Int32)).toInt64)), .second, .unset, .unset, .unset] [(.long su), (.long (lim - a))])) _
    refine XS.lsub X2.here hx rfl (hb hby at_48) rfl ?_
    show Steps p.tables e below (T2.setTop (mkF m 49 #[.val (.long x1), .second, .val (.long y1), .second, .val (.int z1), .val (.int w1), .val (.long lim), .second, .val (.long tq), .second, .val (.long su), .second, .val (.long a), .second, .val (.long ((w1 &&& (3 : Int32)).toInt64)), .second, .unset, .unset, .unset] [(.long ((lim - a) - su))])) _
    refine XS.lload X2.here hx rfl (hb hby at_49) rfl ?_
    show Steps p.tables e below (T2.setTop (mkF m 51 #[.val (.long x1), .second, .val (.long y1), .second, .val (.int z1), .val (.int w1), .val (.long lim), .second, .val (.long tq), .second, .val (.long su), .second, .val (.long a), .second, .val (.long ((w1 &&& (3 : Int32)).toInt64)), .second, .unset, .unset, .unset] [(.long ((w1 &&& (3 : Int32)).toInt64)), (.long ((lim - a) - su))])) _
    refine XS.lsub X2.here hx rfl (hb hby at_51) rfl ?_
    show Steps p.tables e below (T2.setTop (mkF m 52 #[.val (.long x1), .second, .val (.long y1), .second, .val (.int z1), .val (.int w1), .val (.long lim), .second, .val (.long tq), .second, .val (.long su), .second, .val (.long a), .second, .val (.long ((w1 &&& (3 : Int32)).toInt64)), .second, .unset, .unset, .unset] [(.long (((lim - a) - su) - ((w1 &&& (3 : Int32)).toInt64)))])) _
    refine XS.lstore X2.here hx rfl (hb hby at_52) rfl (l' := #[.val (.long x1), .second, .val (.long y1), .second, .val (.int z1), .val (.int w1), .val (.long lim), .second, .val (.long tq), .second, .val (.long su), .second, .val (.long a), .second, .val (.long ((w1 &&& (3 : Int32)).toInt64)), .second, .val (.long (((lim - a) - su) - ((w1 &&& (3 : Int32)).toInt64))), .second, .unset]) rfl ?_
    exact k
  obtain ⟨o1, o2, o3⟩ := own_budget x1 y1 z1 w1 lim tq su a d b e_lim e_tq e_su ha e_d e_b
  obtain ⟨T4, h4, X4, e4, E4, A4, D4, -, st4⟩ := newO X2 hx hZ hown (hw _ (List.mem_of_getElem? (i := 6) rfl)) (hw _ (List.mem_of_getElem? (i := 7) rfl)) (hw _ (List.mem_of_getElem? (i := 8) rfl)) e2 (g := (mkF m 54 #[.val (.long x1), .second, .val (.long y1), .second, .val (.int z1), .val (.int w1), .val (.long lim), .second, .val (.long tq), .second, .val (.long su), .second, .val (.long a), .second, .val (.long d), .second, .val (.long b), .second, .unset] [])) rfl (hb hby at_54) (by decide) (by decide)
  obtain ⟨b4, g4⟩ : ∃ z, z = h0.size := ⟨_, rfl⟩
  rw [← g4] at A4 D4 st4
  have F_limit_b4 : Fld Z h4 b4 "com/example/shared_record_log/sharedrecordlog/query/Budget" "limit" "J" (.long (0 : Int64)) := D4 (Or.inr (hw _ (List.mem_of_getElem? (i := 16) rfl))) (ty := .long) (by decide)
  have F_units_b4 : Fld Z h4 b4 "com/example/shared_record_log/sharedrecordlog/query/Budget" "units" "J" (.long (0 : Int64)) := D4 (Or.inl (hw _ (List.mem_of_getElem? (i := 23) rfl))) (ty := .long) (by decide)
  have F_steps_b4 : Fld Z h4 b4 "com/example/shared_record_log/sharedrecordlog/query/Budget" "steps" "J" (.long (0 : Int64)) := D4 (Or.inl (hw _ (List.mem_of_getElem? (i := 29) rfl))) (ty := .long) (by decide)
  have E_b4 := A4
  have Za : n0 ≤ h4.size := Nat.le_trans Z0 E4.1
  have gb : n0 ≤ b4 := Nat.le_trans Z0 (Nat.le_of_eq g4.symm)
  obtain ⟨_, _, ⟨T5, L5, k5, n5⟩, -, X5, ⟨Lc5, hQ5, l5, y5, z5⟩, st5⟩ := X4.specialBack hx (y := (⟨"com/example/shared_record_log/sharedrecordlog/query/Budget", "<init>", "(J)V"⟩ : MethodName)) rfl hown (mvT hZ (hw _ (List.mem_of_getElem? (i := 9) rfl))) (mvT hZ (hw _ (List.mem_of_getElem? (i := 10) rfl))) (mvT hZ (hw _ (List.mem_of_getElem? (i := 11) rfl))) (by decide) (backOf (W := 1) (rmI l Z a0 hw [] b4 lim (0 : Int64) (0 : Int64) (.long (0 : Int64)) h4 n0 Za E_b4 F_limit_b4 F_units_b4 F_steps_b4 gb) hZ (hw _ (List.mem_of_getElem? (i := 11) rfl)) (hw _ (List.mem_of_getElem? (i := 8) rfl)) (by decide) (by decide)) (g := (mkF m 60 #[.val (.long x1), .second, .val (.long y1), .second, .val (.int z1), .val (.int w1), .val (.long lim), .second, .val (.long tq), .second, .val (.long su), .second, .val (.long a), .second, .val (.long d), .second, .val (.long b), .second, .unset] [(.long lim), (.ref b4), (.ref b4)])) rfl (by rw [hml]; rfl) (Steps.refl _) (a := b4) (argsL := [(.long lim)]) (rest := [(.ref b4)]) (lenOf pd_2 rfl) rfl (by show 2 * 0 + _ ≤ _; exact Nat.le_of_eq rfl) (hb hby at_60) (fun _ _ => ⟨rfl, e4, (by decide : 1 + 0 ≤ _), (by decide : 3 + 0 ≤ _)⟩)
  dsimp only [Pt.U, Pt.locs, Pt.cells, Pt.slots] at X5 l5 y5 z5 st5 hQ5
  subst l5 y5 z5
  obtain ⟨rfl, N5q, K1, E1, F11, F12, F13⟩ := hQ5
  have N5 := Fr.app N2 N5q
  have Zb : n0 ≤ T5.heap.size := Nat.le_trans Za K1.1
  obtain ⟨cq6, kq6, q6a, q6b, q6c⟩ := isOf hZ rfl E1
  obtain ⟨_, _, ⟨T6, L6, k6, n6⟩, -, X6, ⟨Lc6, hQ6, l6, y6, z6⟩, st6⟩ := X5.virtualBack hx (y := (⟨"com/example/shared_record_log/sharedrecordlog/query/Budget", "spend", "(J)V"⟩ : MethodName)) (z := (⟨"com/example/shared_record_log/sharedrecordlog/query/Budget", "spend", "(J)V"⟩ : MethodName)) hown (mvT hZ (hw _ (List.mem_of_getElem? (i := 17) rfl))) (mvT hZ (hw _ (List.mem_of_getElem? (i := 18) rfl))) (notFace_of_selects (args := #[]) (mvT hZ (hw _ (List.mem_of_getElem? (i := 20) rfl)))) (mvT hZ (hw _ (List.mem_of_getElem? (i := 20) rfl))) (mvT hZ (hw _ (List.mem_of_getElem? (i := 19) rfl))) (by decide) (backOf (W := 0) (rmQp l Z a0 hw [] b4 a lim (0 : Int64) (0 : Int64) T5.heap n0 Zb E1 F11 F12 F13 gb o1) hZ (hw _ (List.mem_of_getElem? (i := 21) rfl)) (hw _ (List.mem_of_getElem? (i := 8) rfl)) (by decide) (by decide)) q6a q6c (g := (mkF m 69 #[.val (.long x1), .second, .val (.long y1), .second, .val (.int z1), .val (.int w1), .val (.long lim), .second, .val (.long tq), .second, .val (.long su), .second, .val (.long a), .second, .val (.long d), .second, .val (.long b), .second, .val (.ref b4)] [(.long a), (.ref b4)])) rfl (by rw [hml]; rfl) (Steps.refl _) (argsL := [(.long a)]) (rest := []) (lenOf pd_2 rfl) rfl (by show 2 * 0 + _ ≤ _; exact Nat.le_of_eq rfl) (hb hby at_69) (fun _ _ => ⟨rfl, rfl, (by decide : 1 + 0 ≤ _), (by decide : 3 + 0 ≤ _)⟩)
  dsimp only [Pt.U, Pt.locs, Pt.cells, Pt.slots] at X6 l6 y6 z6 st6 hQ6
  subst l6 y6 z6
  obtain ⟨rfl, N6q, K2, E2, F21, F22, F23⟩ := hQ6
  have N6 := Fr.app N5 N6q
  have Zc : n0 ≤ T6.heap.size := Nat.le_trans Zb K2.1
  obtain ⟨cq7, kq7, q7a, q7b, q7c⟩ := isOf hZ rfl E2
  obtain ⟨_, _, ⟨T7, L7, k7, n7⟩, -, X7, ⟨Lc7, hQ7, l7, y7, z7⟩, st7⟩ := X6.virtualBack hx (y := (⟨"com/example/shared_record_log/sharedrecordlog/query/Budget", "spendSteps", "(J)V"⟩ : MethodName)) (z := (⟨"com/example/shared_record_log/sharedrecordlog/query/Budget", "spendSteps", "(J)V"⟩ : MethodName)) hown (mvT hZ (hw _ (List.mem_of_getElem? (i := 31) rfl))) (mvT hZ (hw _ (List.mem_of_getElem? (i := 32) rfl))) (notFace_of_selects (args := #[]) (mvT hZ (hw _ (List.mem_of_getElem? (i := 34) rfl)))) (mvT hZ (hw _ (List.mem_of_getElem? (i := 34) rfl))) (mvT hZ (hw _ (List.mem_of_getElem? (i := 33) rfl))) (by decide) (backOf (W := 0) (rmQt l Z a0 hw [] b4 tq lim ((0 : Int64) + a) (0 : Int64) T6.heap n0 Zc E2 F21 F22 F23 gb o2) hZ (hw _ (List.mem_of_getElem? (i := 35) rfl)) (hw _ (List.mem_of_getElem? (i := 8) rfl)) (by decide) (by decide)) q7a q7c (g := (mkF m 76 #[.val (.long x1), .second, .val (.long y1), .second, .val (.int z1), .val (.int w1), .val (.long lim), .second, .val (.long tq), .second, .val (.long su), .second, .val (.long a), .second, .val (.long d), .second, .val (.long b), .second, .val (.ref b4)] [(.long tq), (.ref b4)])) rfl (by rw [hml]; rfl) (Steps.refl _) (argsL := [(.long tq)]) (rest := []) (lenOf pd_2 rfl) rfl (by show 2 * 0 + _ ≤ _; exact Nat.le_of_eq rfl) (hb hby at_76) (fun _ _ => ⟨rfl, rfl, (by decide : 1 + 0 ≤ _), (by decide : 3 + 0 ≤ _)⟩)
  dsimp only [Pt.U, Pt.locs, Pt.cells, Pt.slots] at X7 l7 y7 z7 st7 hQ7
  subst l7 y7 z7
  obtain ⟨rfl, N7q, K3, E3, F31, F32, F33⟩ := hQ7
  have N7 := Fr.app N6 N7q
  have Zd : n0 ≤ T7.heap.size := Nat.le_trans Zc K3.1
  obtain ⟨cq8, kq8, q8a, q8b, q8c⟩ := isOf hZ rfl E3
  obtain ⟨_, _, ⟨T8, L8, k8, n8⟩, -, X8, ⟨Lc8, hQ8, l8, y8, z8⟩, st8⟩ := X7.virtualBack hx (y := (⟨"com/example/shared_record_log/sharedrecordlog/query/Budget", "spend", "(J)V"⟩ : MethodName)) (z := (⟨"com/example/shared_record_log/sharedrecordlog/query/Budget", "spend", "(J)V"⟩ : MethodName)) hown (mvT hZ (hw _ (List.mem_of_getElem? (i := 17) rfl))) (mvT hZ (hw _ (List.mem_of_getElem? (i := 18) rfl))) (notFace_of_selects (args := #[]) (mvT hZ (hw _ (List.mem_of_getElem? (i := 20) rfl)))) (mvT hZ (hw _ (List.mem_of_getElem? (i := 20) rfl))) (mvT hZ (hw _ (List.mem_of_getElem? (i := 19) rfl))) (by decide) (backOf (W := 0) (rmQp l Z a0 hw [] b4 b lim ((0 : Int64) + a) ((0 : Int64) + tq) T7.heap n0 Zd E3 F31 F32 F33 gb o3) hZ (hw _ (List.mem_of_getElem? (i := 21) rfl)) (hw _ (List.mem_of_getElem? (i := 8) rfl)) (by decide) (by decide)) q8a q8c (g := (mkF m 83 #[.val (.long x1), .second, .val (.long y1), .second, .val (.int z1), .val (.int w1), .val (.long lim), .second, .val (.long tq), .second, .val (.long su), .second, .val (.long a), .second, .val (.long d), .second, .val (.long b), .second, .val (.ref b4)] [(.long b), (.ref b4)])) rfl (by rw [hml]; rfl) (Steps.refl _) (argsL := [(.long b)]) (rest := []) (lenOf pd_2 rfl) rfl (by show 2 * 0 + _ ≤ _; exact Nat.le_of_eq rfl) (hb hby at_83) (fun _ _ => ⟨rfl, rfl, (by decide : 1 + 0 ≤ _), (by decide : 3 + 0 ≤ _)⟩)
  dsimp only [Pt.U, Pt.locs, Pt.cells, Pt.slots] at X8 l8 y8 z8 st8 hQ8
  subst l8 y8 z8
  obtain ⟨rfl, N8q, K4, E4, F41, F42, F43⟩ := hQ8
  have N8 := Fr.app N7 N8q
  obtain ⟨fs, hr, hrun, hended, hW, hsame⟩ := X8.leave (v := some (.int (1 : Int32))) (fun h => by rw [Bd.returns] at h; cases h) (hlocks := BodyLoose.notSynchronized Bd)
  refine ⟨_, _, pre3 _ ?_, hrun, hended, _, _, rfl, ?_, ⟨_, rfl⟩, hW, hsame.mono (by decide) (by decide)⟩
  · show Steps p.tables e below (T2.setTop (mkF m 54 #[.val (.long x1), .second, .val (.long y1), .second, .val (.int z1), .val (.int w1), .val (.long lim), .second, .val (.long tq), .second, .val (.long su), .second, .val (.long a), .second, .val (.long d), .second, .val (.long b), .second, .unset] [])) _
    refine st4 _ ?_
    show Steps p.tables e below (T4.setTop (mkF m 57 #[.val (.long x1), .second, .val (.long y1), .second, .val (.int z1), .val (.int w1), .val (.long lim), .second, .val (.long tq), .second, .val (.long su), .second, .val (.long a), .second, .val (.long d), .second, .val (.long b), .second, .unset] [(.ref b4)])) _
    refine XS.dup X4.here hx rfl (hb hby at_57) rfl rfl ?_
    show Steps p.tables e below (T4.setTop (mkF m 58 #[.val (.long x1), .second, .val (.long y1), .second, .val (.int z1), .val (.int w1), .val (.long lim), .second, .val (.long tq), .second, .val (.long su), .second, .val (.long a), .second, .val (.long d), .second, .val (.long b), .second, .unset] [(.ref b4), (.ref b4)])) _
    refine XS.lload X4.here hx rfl (hb hby at_58) rfl ?_
    show Steps p.tables e below (T4.setTop (mkF m 60 #[.val (.long x1), .second, .val (.long y1), .second, .val (.int z1), .val (.int w1), .val (.long lim), .second, .val (.long tq), .second, .val (.long su), .second, .val (.long a), .second, .val (.long d), .second, .val (.long b), .second, .unset] [(.long lim), (.ref b4), (.ref b4)])) _
    refine st5.trans ?_
    show Steps p.tables e below (T5.setTop (mkF m 63 #[.val (.long x1), .second, .val (.long y1), .second, .val (.int z1), .val (.int w1), .val (.long lim), .second, .val (.long tq), .second, .val (.long su), .second, .val (.long a), .second, .val (.long d), .second, .val (.long b), .second, .unset] [(.ref b4)])) _
    refine XS.astore X5.here hx rfl (hb hby at_63) rfl rfl (l' := #[.val (.long x1), .second, .val (.long y1), .second, .val (.int z1), .val (.int w1), .val (.long lim), .second, .val (.long tq), .second, .val (.long su), .second, .val (.long a), .second, .val (.long d), .second, .val (.long b), .second, .val (.ref b4)]) rfl ?_
    show Steps p.tables e below (T5.setTop (mkF m 65 #[.val (.long x1), .second, .val (.long y1), .second, .val (.int z1), .val (.int w1), .val (.long lim), .second, .val (.long tq), .second, .val (.long su), .second, .val (.long a), .second, .val (.long d), .second, .val (.long b), .second, .val (.ref b4)] [])) _
    refine XS.aload X5.here hx rfl (hb hby at_65) rfl rfl ?_
    show Steps p.tables e below (T5.setTop (mkF m 67 #[.val (.long x1), .second, .val (.long y1), .second, .val (.int z1), .val (.int w1), .val (.long lim), .second, .val (.long tq), .second, .val (.long su), .second, .val (.long a), .second, .val (.long d), .second, .val (.long b), .second, .val (.ref b4)] [(.ref b4)])) _
    refine XS.lload X5.here hx rfl (hb hby at_67) rfl ?_
    show Steps p.tables e below (T5.setTop (mkF m 69 #[.val (.long x1), .second, .val (.long y1), .second, .val (.int z1), .val (.int w1), .val (.long lim), .second, .val (.long tq), .second, .val (.long su), .second, .val (.long a), .second, .val (.long d), .second, .val (.long b), .second, .val (.ref b4)] [(.long a), (.ref b4)])) _
    refine st6.trans ?_
    show Steps p.tables e below (T6.setTop (mkF m 72 #[.val (.long x1), .second, .val (.long y1), .second, .val (.int z1), .val (.int w1), .val (.long lim), .second, .val (.long tq), .second, .val (.long su), .second, .val (.long a), .second, .val (.long d), .second, .val (.long b), .second, .val (.ref b4)] [])) _
    refine XS.aload X6.here hx rfl (hb hby at_72) rfl rfl ?_
    show Steps p.tables e below (T6.setTop (mkF m 74 #[.val (.long x1), .second, .val (.long y1), .second, .val (.int z1), .val (.int w1), .val (.long lim), .second, .val (.long tq), .second, .val (.long su), .second, .val (.long a), .second, .val (.long d), .second, .val (.long b), .second, .val (.ref b4)] [(.ref b4)])) _
    refine XS.lload X6.here hx rfl (hb hby at_74) rfl ?_
    show Steps p.tables e below (T6.setTop (mkF m 76 #[.val (.long x1), .second, .val (.long y1), .second, .val (.int z1), .val (.int w1), .val (.long lim), .second, .val (.long tq), .second, .val (.long su), .second, .val (.long a), .second, .val (.long d), .second, .val (.long b), .second, .val (.ref b4)] [(.long tq), (.ref b4)])) _
    refine st7.trans ?_
    show Steps p.tables e below (T7.setTop (mkF m 79 #[.val (.long x1), .second, .val (.long y1), .second, .val (.int z1), .val (.int w1), .val (.long lim), .second, .val (.long tq), .second, .val (.long su), .second, .val (.long a), .second, .val (.long d), .second, .val (.long b), .second, .val (.ref b4)] [])) _
    refine XS.aload X7.here hx rfl (hb hby at_79) rfl rfl ?_
    show Steps p.tables e below (T7.setTop (mkF m 81 #[.val (.long x1), .second, .val (.long y1), .second, .val (.int z1), .val (.int w1), .val (.long lim), .second, .val (.long tq), .second, .val (.long su), .second, .val (.long a), .second, .val (.long d), .second, .val (.long b), .second, .val (.ref b4)] [(.ref b4)])) _
    refine XS.lload X7.here hx rfl (hb hby at_81) rfl ?_
    show Steps p.tables e below (T7.setTop (mkF m 83 #[.val (.long x1), .second, .val (.long y1), .second, .val (.int z1), .val (.int w1), .val (.long lim), .second, .val (.long tq), .second, .val (.long su), .second, .val (.long a), .second, .val (.long d), .second, .val (.long b), .second, .val (.ref b4)] [(.long b), (.ref b4)])) _
    refine st8.trans ?_
    show Steps p.tables e below (T8.setTop (mkF m 86 #[.val (.long x1), .second, .val (.long y1), .second, .val (.int z1), .val (.int w1), .val (.long lim), .second, .val (.long tq), .second, .val (.long su), .second, .val (.long a), .second, .val (.long d), .second, .val (.long b), .second, .val (.ref b4)] [])) _
    refine XS.iconst X8.here hx rfl (hb hby at_86) ?_
    show Steps p.tables e below (T8.setTop (mkF m 87 #[.val (.long x1), .second, .val (.long y1), .second, .val (.int z1), .val (.int w1), .val (.long lim), .second, .val (.long tq), .second, .val (.long su), .second, .val (.long a), .second, .val (.long d), .second, .val (.long b), .second, .val (.ref b4)] [(.int (1 : Int32))])) _
    exact retN X8 hx (t := .boolean) Bd.returns (by simp) (hb hby at_87) hr
  · show Q0 Z x1 y1 z1 w1 h0 n0 _ T8.heap _
    exact ⟨rfl, N8⟩
set_option maxRecDepth 65536 in
set_option maxHeartbeats 40000000 in
theorem comes_1 {Post : Tables → Env → Array Value → State → Outcome → State → Prop} (hpost : ∀ tb e args s v u, (limb_1_1.after args s (.returned v) u = true ∧ limb_1_2.after args s (.returned v) u = true ∧ True) → FrameEnd s (.returned v) u (Jvm.fieldLocs frame_1_writes args s ++ Jvm.arrayLocs frame_1_arrays args s ++ Jvm.staticLocs frame_1_statics s) 16 128 → Post tb e args s (.returned v) u) :
    ArmFor flags0 classFile x code maxLocals ret World_1 tables_1 room_1 Calls_1 rest_1 Pre_1 Post := by
  intro l hfl _ _ p e ha hc hk s m args below hf hA hF happ hP
  obtain ⟨hcalls, hrest, hpre⟩ := hP
  obtain ⟨-, -, -, hnamed, -, -, -, hat⟩ := (Spec.applies_iff hf).mp happ
  obtain ⟨hg, hn⟩ := and_e (Cond.before_iff.mp (show (Jvm.Cond.and given_1 narrow_1).before args s = true from hpre))
  obtain ⟨hcount, r0⟩ := and_e hg
  obtain ⟨v0, r1⟩ := and_e r0
  obtain ⟨v1, r2⟩ := and_e r1
  obtain ⟨v2, r3⟩ := and_e r2
  obtain ⟨w0, w1, w2, w3, rfl⟩ : ∃ w0 w1 w2 w3 : Value, args = #[w0, w1, w2, w3] := by
    have hs : args.size = 4 := by simpa [Cond.value, given_1] using hcount
    obtain ⟨L⟩ := args
    match L, hs with
    | [w0, w1, w2, w3], _ => exact ⟨w0, w1, w2, w3, rfl⟩
  have hw := fun d (hd : d ∈ tables_1) => atoms_spec (ws := Jvm.Cond.code x code maxLocals ret :: tables_1) hat d (List.mem_cons_of_mem _ hd)
  obtain ⟨i0, ei0⟩ := isL_v v0
  obtain rfl : w0 = (.long i0) := Option.some.inj ei0
  obtain ⟨i1, ei1⟩ := isL_v v1
  obtain rfl : w1 = (.long i1) := Option.some.inj ei1
  obtain ⟨i2, ei2⟩ := is_v v2
  obtain rfl : w2 = (.int i2) := Option.some.inj ei2
  obtain ⟨i3, ei3⟩ := is_v r3
  obtain rfl : w3 = (.int i3) := Option.some.inj ei3
  obtain ⟨n, o, h1, h2, h3, _, L, rfl, ⟨rfl, N⟩, hq⟩ := rm0 l s _ hw tables_1 i0 i1 i2 i3 s.heap s.heap.size (Nat.le_refl _) p e ha hc hk s m _ below hf ((Spec.applies_iff_loose hf).mp happ).1 ⟨rfl, State.Warmed39.refl s, rfl⟩ trivial
  refine ⟨n, _, h1, h2, h3, hpost _ _ _ _ _ _ ⟨Cond.after_iff.mpr rfl, Cond.after_iff.mpr (eq_i res_at (Term.int_eval (1)) rfl), trivial⟩ ⟨hq.1, hq.2.1, (hq.2.2.sift fun y hy => Or.inr (N y hy)).mono (by decide) (by decide)⟩⟩
theorem main_1_1 : Claimed_1_1 := comes_1 fun _ _ _ _ _ _ h hF => ⟨h.1, hF⟩
theorem main_1_2 : Claimed_1_2 := comes_1 fun _ _ _ _ _ _ h hF => ⟨h.2.1, hF⟩
end Jvm.Pilot.@@N@@
namespace Jvm.Pilot.@@N@@
open Jvm Jvm.ClassFile Sem Op Lib Jvm.Free Jvm.Stand Jvm.Pilot.@@N@@.Jvm.D
/-! MADE BY PROGRAM (witnessworld.py) out of the Statement's table words and the real class files: 10 classes; the members and pool entries that the words name. The judged class is class 1, her method 1. -/
namespace start1
open Jvm.ClassFile
def u (s : String) : CpInfo := .utf8 (stringToUtf16 s)
/-- a pool by its gaps: so many unusable entries, then the entry; so many at the end -/
def gap : Nat → List CpInfo → List CpInfo
  | 0, r => r
  | n + 1, r => .unusable :: gap n r
def poolList (es : List (Nat × CpInfo)) (last : Nat) : List CpInfo := es.foldr (fun e r => gap e.1 (e.2 :: r)) (gap last [])
def pool (es : List (Nat × CpInfo)) (last : Nat) : Array CpInfo := ⟨poolList es last⟩
def fileOf (pool : Array CpInfo) (this : Nat) (attrs : Array Attribute := #[]) (ms : Array MethodInfo := #[]) (fl : Nat := 33) (sup : Nat := 0) (ifs : Array Nat := #[]) (fds : Array FieldInfo := #[]) : ClassFile where
  minorVersion := 0
  majorVersion := 65
  constantPool := pool
  accessFlags := fl
  thisClass := this
  superClass := sup
  interfaces := ifs
  fields := fds
  methods := ms
  attributes := attrs
def plain (name : String) (sup : Option ClassId) : Class where
  name := name
  kind := .ordinary
  loader := none
  accessFlags := 33
  super := sup
  interfaces := #[]
  cf := none
  fields := #[]
  methods := #[]
  instanceTypes := #[]
  staticTypes := #[]
  resolved := #[]
  callSites := []
  init := .initialized
  statics := none
  mirror := none

def pool0 : Array CpInfo := pool [(5, u "<init>"), (0, u "()V"), (1, .class_ 10), (1, u "java/lang/Object")] 113

def k0c0 : Code := { maxStack := 0, maxLocals := 1, code := object_method_1_code, exceptionTable := #[], attributes := #[] }
def k0m0 : Method := { name := "<init>", desc := "()V", sig := { parameters := [], returnType := none }, accessFlags := 1, code := some k0c0 }
/-- java/lang/Object -/
def k0 : Class := { plain "java/lang/Object" none with
  accessFlags := 33
  interfaces := #[]
  cf := some (fileOf pool0 8 #[] #[{ accessFlags := 1, nameIndex := 5, descriptorIndex := 6, attributes := #[] }] 33 0 #[] #[])
  fields := #[]
  methods := #[k0m0]
  instanceTypes := #[]
  staticTypes := #[]
  resolved := Array.replicate 124 none
  statics := none }

def pool1 : Array CpInfo := pool [(2, .class_ 4), (1, u "java/lang/Object"), (0, u "<init>"), (0, u "()V"), (0, .integer 1048575), (0, .long 1000), (1, .methodref 11 12), (0, .class_ 13), (0, .nameAndType 14 15), (0, u "java/lang/Math"), (0, u "min"), (0, u "(JJ)J"), (0, .class_ 17), (0, u "com/example/shared_record_log/sharedrecordlog/query/Budget"), (0, .methodref 16 19), (0, .nameAndType 5 20), (0, u "(J)V"), (0, .methodref 16 22), (0, .nameAndType 23 20), (0, u "spend"), (0, .methodref 16 25), (0, .nameAndType 26 20), (0, u "spendSteps"), (0, .class_ 28), (0, u "com/example/shared_record_log/sharedrecordlog/query/BudgetSpendPinLaw"), (2, u "law"), (0, u "(JJII)Z")] 2

def k1m0 : Method := { name := "<init>", desc := "()V", sig := { parameters := [], returnType := none }, accessFlags := 1, code := none }
def k1c1 : Code := { maxStack := 6, maxLocals := 19, code := code, exceptionTable := #[], attributes := #[] }
def k1m1 : Method := { name := "law", desc := "(JJII)Z", sig := { parameters := [.long, .long, .int, .int], returnType := some .boolean }, accessFlags := 9, code := some k1c1 }
/-- com/example/shared_record_log/sharedrecordlog/query/BudgetSpendPinLaw -/
def k1 : Class := { plain "com/example/shared_record_log/sharedrecordlog/query/BudgetSpendPinLaw" (some 0) with
  accessFlags := 49
  interfaces := #[]
  cf := some (fileOf pool1 27 #[] #[{ accessFlags := 1, nameIndex := 5, descriptorIndex := 6, attributes := #[] }, { accessFlags := 9, nameIndex := 31, descriptorIndex := 32, attributes := #[] }] 49 2 #[] #[])
  fields := #[]
  methods := #[k1m0, k1m1]
  instanceTypes := #[]
  staticTypes := #[]
  resolved := Array.replicate 35 none
  statics := none }

def pool2 : Array CpInfo := pool [(1, .class_ 2), (0, u "java/lang/Math"), (1, .class_ 6), (1, u "java/lang/Object"), (0, u "<init>"), (0, u "()V"), (89, .class_ 100), (1, u "java/lang/Math$RandomNumberGeneratorHolder"), (20, u "(JJ)J"), (50, u "negativeZeroFloatBits"), (0, u "J"), (2, u "negativeZeroDoubleBits"), (24, u "min"), (43, u "$assertionsDisabled"), (0, u "Z"), (91, u "twoToTheDoubleScaleDown"), (0, u "D"), (4, u "twoToTheDoubleScaleUp"), (9, u "E"), (3, u "PI"), (2, u "TAU"), (2, u "DEGREES_TO_RADIANS"), (0, u "RADIANS_TO_DEGREES")] 94

def k2m0 : Method := { name := "<init>", desc := "()V", sig := { parameters := [], returnType := none }, accessFlags := 2, code := none }
def k2c1 : Code := { maxStack := 4, maxLocals := 4, code := jdk_29_method_70_code, exceptionTable := #[], attributes := #[] }
def k2m1 : Method := { name := "min", desc := "(JJ)J", sig := { parameters := [.long, .long], returnType := some .long }, accessFlags := 9, code := some k2c1 }
/-- java/lang/Math -/
def k2 : Class := { plain "java/lang/Math" (some 0) with
  accessFlags := 49
  interfaces := #[]
  cf := some (fileOf pool2 1 #[.nestMembers #[98]] #[{ accessFlags := 2, nameIndex := 7, descriptorIndex := 8, attributes := #[] }, { accessFlags := 9, nameIndex := 201, descriptorIndex := 121, attributes := #[] }] 49 4 #[] #[{ accessFlags := 25, nameIndex := 354, descriptorIndex := 339, attributes := #[] }, { accessFlags := 25, nameIndex := 358, descriptorIndex := 339, attributes := #[] }, { accessFlags := 25, nameIndex := 361, descriptorIndex := 339, attributes := #[] }, { accessFlags := 26, nameIndex := 364, descriptorIndex := 339, attributes := #[] }, { accessFlags := 26, nameIndex := 365, descriptorIndex := 339, attributes := #[] }, { accessFlags := 26, nameIndex := 172, descriptorIndex := 173, attributes := #[] }, { accessFlags := 26, nameIndex := 176, descriptorIndex := 173, attributes := #[] }, { accessFlags := 8, nameIndex := 344, descriptorIndex := 339, attributes := #[] }, { accessFlags := 8, nameIndex := 338, descriptorIndex := 339, attributes := #[] }, { accessFlags := 4120, nameIndex := 245, descriptorIndex := 246, attributes := #[] }])
  fields := #[{ name := "E", type := .double, accessFlags := 25, slot := 0, constantValue := 0 }, { name := "PI", type := .double, accessFlags := 25, slot := 1, constantValue := 0 }, { name := "TAU", type := .double, accessFlags := 25, slot := 2, constantValue := 0 }, { name := "DEGREES_TO_RADIANS", type := .double, accessFlags := 26, slot := 3, constantValue := 0 }, { name := "RADIANS_TO_DEGREES", type := .double, accessFlags := 26, slot := 4, constantValue := 0 }, { name := "negativeZeroFloatBits", type := .long, accessFlags := 26, slot := 5, constantValue := 0 }, { name := "negativeZeroDoubleBits", type := .long, accessFlags := 26, slot := 6, constantValue := 0 }, { name := "twoToTheDoubleScaleUp", type := .double, accessFlags := 8, slot := 7, constantValue := 0 }, { name := "twoToTheDoubleScaleDown", type := .double, accessFlags := 8, slot := 8, constantValue := 0 }, { name := "$assertionsDisabled", type := .boolean, accessFlags := 4120, slot := 9, constantValue := 0 }]
  methods := #[k2m0, k2m1]
  instanceTypes := #[]
  staticTypes := #[.double, .double, .double, .double, .double, .long, .long, .double, .double, .boolean]
  resolved := Array.replicate 460 none
  statics := none }

def pool3 : Array CpInfo := pool [(1, .methodref 2 3), (0, .class_ 4), (0, .nameAndType 5 6), (0, u "java/lang/Object"), (0, u "<init>"), (0, u "()V"), (0, .fieldref 8 9), (0, .class_ 10), (0, .nameAndType 11 12), (0, u "com/example/shared_record_log/sharedrecordlog/query/Budget"), (0, u "limit"), (0, u "J"), (0, .fieldref 8 14), (0, .nameAndType 15 12), (0, u "units"), (0, .methodref 8 17), (0, .nameAndType 18 6), (0, u "check"), (0, .fieldref 8 20), (0, .nameAndType 21 12), (0, u "steps"), (0, .long 1000), (1, .class_ 25), (0, u "com/example/shared_record_log/sharedrecordlog/query/Budget$Overspent"), (1, u "PER_REQUEST"), (3, u "RECORD_READ"), (2, u "STEPS_PER_UNIT"), (0, u "(J)V"), (2, u "spend"), (0, u "spendSteps")] 6

def k3c0 : Code := { maxStack := 3, maxLocals := 3, code := prog_23_method_1_code, exceptionTable := #[], attributes := #[] }
def k3m0 : Method := { name := "<init>", desc := "(J)V", sig := { parameters := [.long], returnType := none }, accessFlags := 0, code := some k3c0 }
def k3c1 : Code := { maxStack := 5, maxLocals := 3, code := prog_23_method_2_code, exceptionTable := #[], attributes := #[] }
def k3m1 : Method := { name := "spend", desc := "(J)V", sig := { parameters := [.long], returnType := none }, accessFlags := 0, code := some k3c1 }
def k3c2 : Code := { maxStack := 5, maxLocals := 3, code := prog_23_method_3_code, exceptionTable := #[], attributes := #[] }
def k3m2 : Method := { name := "spendSteps", desc := "(J)V", sig := { parameters := [.long], returnType := none }, accessFlags := 0, code := some k3c2 }
def k3c3 : Code := { maxStack := 6, maxLocals := 1, code := prog_23_method_4_code, exceptionTable := #[], attributes := #[] }
def k3m3 : Method := { name := "check", desc := "()V", sig := { parameters := [], returnType := none }, accessFlags := 2, code := some k3c3 }
/-- com/example/shared_record_log/sharedrecordlog/query/Budget -/
def k3 : Class := { plain "com/example/shared_record_log/sharedrecordlog/query/Budget" (some 0) with
  accessFlags := 32
  interfaces := #[]
  cf := some (fileOf pool3 8 #[.nestMembers #[24]] #[{ accessFlags := 0, nameIndex := 5, descriptorIndex := 35, attributes := #[] }, { accessFlags := 0, nameIndex := 38, descriptorIndex := 35, attributes := #[] }, { accessFlags := 0, nameIndex := 39, descriptorIndex := 35, attributes := #[] }, { accessFlags := 2, nameIndex := 18, descriptorIndex := 6, attributes := #[] }] 32 2 #[] #[{ accessFlags := 24, nameIndex := 27, descriptorIndex := 12, attributes := #[] }, { accessFlags := 24, nameIndex := 31, descriptorIndex := 12, attributes := #[] }, { accessFlags := 24, nameIndex := 34, descriptorIndex := 12, attributes := #[] }, { accessFlags := 18, nameIndex := 11, descriptorIndex := 12, attributes := #[] }, { accessFlags := 2, nameIndex := 15, descriptorIndex := 12, attributes := #[] }, { accessFlags := 2, nameIndex := 21, descriptorIndex := 12, attributes := #[] }])
  fields := #[{ name := "PER_REQUEST", type := .long, accessFlags := 24, slot := 0, constantValue := 0 }, { name := "RECORD_READ", type := .long, accessFlags := 24, slot := 1, constantValue := 0 }, { name := "STEPS_PER_UNIT", type := .long, accessFlags := 24, slot := 2, constantValue := 0 }, { name := "limit", type := .long, accessFlags := 18, slot := 0, constantValue := 0 }, { name := "units", type := .long, accessFlags := 2, slot := 1, constantValue := 0 }, { name := "steps", type := .long, accessFlags := 2, slot := 2, constantValue := 0 }]
  methods := #[k3m0, k3m1, k3m2, k3m3]
  instanceTypes := #[.long, .long, .long]
  staticTypes := #[.long, .long, .long]
  resolved := Array.replicate 46 none
  statics := none }

def pool4 : Array CpInfo := pool [(1, u "java/lang/Cloneable"), (0, .class_ 1), (0, u "java/lang/Object"), (0, .class_ 3)] 3

/-- java/lang/Cloneable -/
def k4 : Class := { plain "java/lang/Cloneable" (some 0) with
  accessFlags := 1537
  interfaces := #[]
  cf := some (fileOf pool4 2 #[] #[] 1537 4 #[] #[])
  fields := #[]
  methods := #[]
  instanceTypes := #[]
  staticTypes := #[]
  resolved := Array.replicate 8 none
  statics := none }

def pool5 : Array CpInfo := pool [(1, u "java/io/Serializable"), (0, .class_ 1), (0, u "java/lang/Object"), (0, .class_ 3)] 3

/-- java/io/Serializable -/
def k5 : Class := { plain "java/io/Serializable" (some 0) with
  accessFlags := 1537
  interfaces := #[]
  cf := some (fileOf pool5 2 #[] #[] 1537 4 #[] #[])
  fields := #[]
  methods := #[]
  instanceTypes := #[]
  staticTypes := #[]
  resolved := Array.replicate 8 none
  statics := none }

/-- the primitive byte -/
def k6 : Class := { plain "byte" none with kind := .primitive 'B', accessFlags := 0x411 }
/-- [B -/
def k7 : Class := { plain "[B" (some 0) with kind := .array 6 .byte, interfaces := #[4, 5], accessFlags := 1041 }

/-- the primitive int -/
def k8 : Class := { plain "int" none with kind := .primitive 'I', accessFlags := 0x411 }
/-- [I -/
def k9 : Class := { plain "[I" (some 0) with kind := .array 8 .int, interfaces := #[4, 5], accessFlags := 1041 }

def heap : Heap := #[]
def classes : Array Class := #[k0, k1, k2, k3, k4, k5, k6, k7, k8, k9]
def interned : List (Array UInt16 × Addr) := []
def slotsUsed : Nat := 0
def theMethod : MethodId := ⟨1, 1⟩
def args0 : Array Value := #[.long 100, .long 7, .int 5000, .int 2]
def aboutOver (below : List Frame) : State where
  vm := { classes := classes, interned := interned.toArray }
  heap := heap
  slotsUsed := slotsUsed
  threads := #[{ frames := .invoking theMethod args0 :: below }]
def below0 : List Frame := [.native { method := ⟨0, 0⟩, args := #[] }]
def about1 : State := aboutOver below0
def p0 : Program := .bare "" "" ""
def e0 : Env := launch0.env 0 0 0
theorem w_frames : about1.frames = Frame.invoking theMethod args0 :: below0 := rfl
set_option maxRecDepth 65536 in
theorem w_args : argsFit about1.vm theMethod args0 = true := by decide +kernel
set_option maxRecDepth 65536 in
theorem w_heap : heapFits about1 = true := by decide +kernel
set_option maxRecDepth 65536 in
theorem w_runnable : about1.curStatus? = some .runnable := by decide +kernel
set_option maxRecDepth 65536 in
theorem w_alone : about1.alone = true := by decide +kernel
set_option maxRecDepth 65536 in
theorem w_named : about1.methodNamed? x = some theMethod := by decide +kernel
set_option maxRecDepth 65536 in
theorem w_hears : about1.hears theMethod below0 = true := by decide +kernel
set_option maxRecDepth 65536 in
theorem w_ripe : about1.ripe theMethod args0 below0 = true := by decide +kernel
theorem w_running : about1.status = .running := rfl
set_option maxRecDepth 65536 in
theorem w_room : about1.hasRoom e0.platform room_1 = true :=
  launch0.hasRoom_least _ room_1 (by decide +kernel) (by decide +kernel) (by decide +kernel) (by decide +kernel) (by decide +kernel) (by decide +kernel)
theorem allAtoms_all (ts : List Jvm.Cond) (a : Array Jvm.Value) (st : Jvm.State) : (allAtoms ts).before a st = ts.all (fun c => c.before a st) := by
  induction ts with
  | nil => rfl
  | cons c t ih =>
    show (Jvm.Cond.and c (allAtoms t)).before a st = _
    rw [Jvm.Cond.before_and, ih, List.all_cons]
def words1 : List Jvm.Cond := Jvm.Cond.code x code maxLocals ret :: tables_1
/-- a 'code' word, met by the world's own term for the bytes: nothing is compared byte by byte -/
theorem code_word {y : MethodName} {bytes : ByteArray} {mx : Nat} {rt : Option FieldType} {a : Array Value} {s : State} {m : MethodId} {meth : Method} {c : Code} (h1 : s.methodNamed? y = some m) (h2 : s.vm.method? m = some meth) (h3 : meth.code = some c) (h4 : c.code = bytes)
    (h5 : (c.maxLocals == mx && c.exceptionTable.isEmpty && decide (c.maxStack ≤ mostOperands) && decide (meth.sig.returnType = rt) && !meth.locks && decide (parseMethodDescriptor y.desc = some meth.sig)) = true) : (Jvm.Cond.code y bytes mx rt).before a s = true := by
  simp only [Bool.and_eq_true, beq_iff_eq, Bool.not_eq_true', decide_eq_true_eq] at h5
  obtain ⟨⟨⟨⟨⟨g1, g2⟩, g3⟩, g4⟩, g5⟩, g6⟩ := h5
  simp [Cond.before, Cond.holds, Cond.value, h1, h2, h3, h4, g1, g2, g3, g4, g5, g6]
def isCode : Jvm.Cond → Bool
  | .code _ _ _ _ => true
  | _ => false
theorem all_split {L : List Jvm.Cond} {P : Jvm.Cond → Bool} (h1 : L.all (fun c => isCode c || P c) = true) (h2 : ∀ c ∈ L.filter isCode, P c = true) : L.all P = true := by
  refine List.all_eq_true.mpr fun c hc => ?_
  have h := List.all_eq_true.mp h1 c hc
  rcases Bool.eq_false_or_eq_true (isCode c) with hi | hi
  · exact h2 c (List.mem_filter.mpr ⟨hc, hi⟩)
  · simpa [hi] using h
set_option maxRecDepth 65536 in
theorem w_c0 : (Jvm.Cond.code x code maxLocals ret).before args0 about1 = true := code_word (m := ⟨1, 1⟩) (meth := k1m1) (c := k1c1) (by decide +kernel) rfl rfl rfl (by decide +kernel)
set_option maxRecDepth 65536 in
theorem w_c1 : (Jvm.Cond.code ({ cls := "java/lang/Math", name := "min", desc := "(JJ)J" } : Jvm.MethodName) jdk_29_method_70_code (4 : Nat) (Option.some Jvm.ClassFile.FieldType.long)).before args0 about1 = true := code_word (m := ⟨2, 1⟩) (meth := k2m1) (c := k2c1) (by decide +kernel) rfl rfl rfl (by decide +kernel)
set_option maxRecDepth 65536 in
theorem w_c2 : (Jvm.Cond.code ({ cls := "com/example/shared_record_log/sharedrecordlog/query/Budget", name := "<init>", desc := "(J)V" } : Jvm.MethodName) prog_23_method_1_code (3 : Nat) (Option.none : Option Jvm.ClassFile.FieldType)).before args0 about1 = true := code_word (m := ⟨3, 0⟩) (meth := k3m0) (c := k3c0) (by decide +kernel) rfl rfl rfl (by decide +kernel)
set_option maxRecDepth 65536 in
theorem w_c3 : (Jvm.Cond.code ({ cls := "java/lang/Object", name := "<init>", desc := "()V" } : Jvm.MethodName) object_method_1_code (1 : Nat) (Option.none : Option Jvm.ClassFile.FieldType)).before args0 about1 = true := code_word (m := ⟨0, 0⟩) (meth := k0m0) (c := k0c0) (by decide +kernel) rfl rfl rfl (by decide +kernel)
set_option maxRecDepth 65536 in
theorem w_c4 : (Jvm.Cond.code ({ cls := "com/example/shared_record_log/sharedrecordlog/query/Budget", name := "spend", desc := "(J)V" } : Jvm.MethodName) prog_23_method_2_code (3 : Nat) (Option.none : Option Jvm.ClassFile.FieldType)).before args0 about1 = true := code_word (m := ⟨3, 1⟩) (meth := k3m1) (c := k3c1) (by decide +kernel) rfl rfl rfl (by decide +kernel)
set_option maxRecDepth 65536 in
theorem w_c5 : (Jvm.Cond.code ({ cls := "com/example/shared_record_log/sharedrecordlog/query/Budget", name := "check", desc := "()V" } : Jvm.MethodName) prog_23_method_4_code (1 : Nat) (Option.none : Option Jvm.ClassFile.FieldType)).before args0 about1 = true := code_word (m := ⟨3, 3⟩) (meth := k3m3) (c := k3c3) (by decide +kernel) rfl rfl rfl (by decide +kernel)
set_option maxRecDepth 65536 in
theorem w_c6 : (Jvm.Cond.code ({ cls := "com/example/shared_record_log/sharedrecordlog/query/Budget", name := "spendSteps", desc := "(J)V" } : Jvm.MethodName) prog_23_method_3_code (3 : Nat) (Option.none : Option Jvm.ClassFile.FieldType)).before args0 about1 = true := code_word (m := ⟨3, 2⟩) (meth := k3m2) (c := k3c2) (by decide +kernel) rfl rfl rfl (by decide +kernel)
def codes1 : List Jvm.Cond := [Jvm.Cond.code x code maxLocals ret, Jvm.Cond.code ({ cls := "java/lang/Math", name := "min", desc := "(JJ)J" } : Jvm.MethodName) jdk_29_method_70_code (4 : Nat) (Option.some Jvm.ClassFile.FieldType.long), Jvm.Cond.code ({ cls := "com/example/shared_record_log/sharedrecordlog/query/Budget", name := "<init>", desc := "(J)V" } : Jvm.MethodName) prog_23_method_1_code (3 : Nat) (Option.none : Option Jvm.ClassFile.FieldType), Jvm.Cond.code ({ cls := "java/lang/Object", name := "<init>", desc := "()V" } : Jvm.MethodName) object_method_1_code (1 : Nat) (Option.none : Option Jvm.ClassFile.FieldType), Jvm.Cond.code ({ cls := "com/example/shared_record_log/sharedrecordlog/query/Budget", name := "spend", desc := "(J)V" } : Jvm.MethodName) prog_23_method_2_code (3 : Nat) (Option.none : Option Jvm.ClassFile.FieldType), Jvm.Cond.code ({ cls := "com/example/shared_record_log/sharedrecordlog/query/Budget", name := "check", desc := "()V" } : Jvm.MethodName) prog_23_method_4_code (1 : Nat) (Option.none : Option Jvm.ClassFile.FieldType), Jvm.Cond.code ({ cls := "com/example/shared_record_log/sharedrecordlog/query/Budget", name := "spendSteps", desc := "(J)V" } : Jvm.MethodName) prog_23_method_3_code (3 : Nat) (Option.none : Option Jvm.ClassFile.FieldType)]
set_option maxRecDepth 65536 in
theorem codes_eq : words1.filter isCode = codes1 := rfl
theorem w_codes : ∀ c ∈ words1.filter isCode, c.before args0 about1 = true := by
  rw [codes_eq]
  intro c hc
  simp only [codes1, List.mem_cons, List.not_mem_nil, or_false] at hc
  rcases hc with rfl | rfl | rfl | rfl | rfl | rfl | rfl
  · exact w_c0
  · exact w_c1
  · exact w_c2
  · exact w_c3
  · exact w_c4
  · exact w_c5
  · exact w_c6
set_option maxRecDepth 65536 in
theorem w_t1 : (words1.take 24).all (fun c => isCode c || c.before args0 about1) = true := by decide +kernel
set_option maxRecDepth 65536 in
theorem w_t2 : (words1.drop 24).all (fun c => isCode c || c.before args0 about1) = true := by decide +kernel
theorem w_tables : (allAtoms (Jvm.Cond.code x code maxLocals ret :: tables_1)).before args0 about1 = true := by
  rw [allAtoms_all]
  show words1.all (fun c => c.before args0 about1) = true
  refine all_split ?_ w_codes
  rw [← List.take_append_drop 24 words1, List.all_append, w_t1, w_t2]
  rfl
set_option maxRecDepth 65536 in
theorem w_case : (Jvm.Cond.and given_1 narrow_1).before args0 about1 = true := by decide +kernel
theorem w_applies : (headSpec (Jvm.Cond.code x code maxLocals ret :: tables_1) room_1).applies x e0.platform about1 = true :=
  (Spec.applies_iff w_frames).mpr ⟨w_running, w_runnable, w_alone, w_named, w_hears, w_ripe, w_room, w_tables⟩
theorem atStart : AtStart classFile x code maxLocals ret World_1 tables_1 room_1 Calls_1 rest_1 Pre_1 launch0 p0 e0 about1 theMethod args0 below0 :=
  ⟨lists_1, trivial, launch0.admits_env _ _ _, launch0.least_env, fairChoices_fair.cas, fairChoices_fair.clock, w_frames, w_args, w_heap, w_applies, trivial, trivial, w_case⟩
end start1
theorem witness_1 : WitnessClaimed_1 := ⟨start1.p0, start1.e0, start1.about1, start1.theMethod, start1.args0, start1.below0, start1.atStart⟩
end Jvm.Pilot.@@N@@
