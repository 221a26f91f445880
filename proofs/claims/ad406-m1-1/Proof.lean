import JvmDerived
import JvmDerived.Pilot.@@N@@Statement
import JvmDerived.Pilot.@@N@@Code
set_option linter.unusedVariables false
set_option linter.unusedSimpArgs false
namespace Jvm.RoadKit
open Sem ClassFile Op Lib Jvm.Stand Jvm.Free Jvm.LawKit
section New
variable {p : Program} {l : Launch} {e : Env} {R : Room} {s : State} {m : MethodId} {args : Array Value} {below : List Frame} {meth : Method} {c : Code} {T : State} {locs : List Loc} {cells slots : Nat}
theorem retI (X : Stand p l e R s m args below meth c T locs cells slots) (hx : p.tables.exec = Jvm.exec) {pc : Nat} {Ls : Array Slot} {z : Int32} {rest : List Value} (hret : meth.sig.returnType = some .int) (hd : decode c.code pc = .ok (.ireturn, 1)) {fs : List Frame}
    (hl : ∀ (f : JFrame) (acts : List Action), f.method = m → f.locked = none → f.entered = [] → (doReturn e (T.setTop f) acts (some (.int z))).1 = T.setFrames fs) : Steps p.tables e below (T.setTop (mkF m pc Ls (.int z :: rest))) (T.setFrames fs) := by
  have hm' : T.vm.method? m = some meth := X.method'
  have hn : narrow .int (.int z) = .int z := rfl
  show Steps p.tables e below (T.setTop { method := m, pc := pc, locals := Ls, stack := _ :: rest, locked := none }) _
  jvm_step X.here [X.here.top, hx, hd, hm', hret, hn]
  first | (intro acts; rw [hl _ acts rfl rfl rfl]) | rw [hl _ _ rfl rfl rfl]
  exact Steps.refl _
end New
end Jvm.RoadKit
namespace Jvm.Pilot.@@N@@
open Jvm Jvm.ClassFile Sem Op Lib Jvm.Free Jvm.Stand Jvm.LawKit Jvm.RoadKit Bundle Jvm.Pilot.@@N@@.Jvm.D
/-! the plain law -/
theorem own_later (d n got ex : Int64) (h1 : (got = (d &&& (9223372036854775807 : Int64)) + (n &&& (9223372036854775807 : Int64)) ∧ (n &&& (9223372036854775807 : Int64)) < (9223372036854775807 : Int64) - (d &&& (9223372036854775807 : Int64))) ∨ (got = (9223372036854775807 : Int64) ∧ ¬ (n &&& (9223372036854775807 : Int64)) < (9223372036854775807 : Int64) - (d &&& (9223372036854775807 : Int64))))
    (h2 : (ex = (9223372036854775807 : Int64) ∧ (d &&& (9223372036854775807 : Int64)) + (n &&& (9223372036854775807 : Int64)) < (0 : Int64)) ∨ (ex = (d &&& (9223372036854775807 : Int64)) + (n &&& (9223372036854775807 : Int64)) ∧ ¬ (d &&& (9223372036854775807 : Int64)) + (n &&& (9223372036854775807 : Int64)) < (0 : Int64))) : got = ex := by
  have m1 := c_maskL d (9223372036854775807 : Int64) 63 (by decide) (by decide)
  have m2 := c_maskL n (9223372036854775807 : Int64) 63 (by decide) (by decide)
  generalize (d &&& (9223372036854775807 : Int64)) = x at *
  generalize (n &&& (9223372036854775807 : Int64)) = y at *
  have a1 := c_ladd x y
  have s1 := c_lsub (9223372036854775807 : Int64) x
  have b1 := Int64.toInt_lt (x + y); have b2 := Int64.le_toInt (x + y)
  have b3 := Int64.toInt_lt ((9223372036854775807 : Int64) - x); have b4 := Int64.le_toInt ((9223372036854775807 : Int64) - x)
  simp only [Int64.lt_iff_toInt_lt, Int64.reduceToInt] at *
  rcases h1 with ⟨rfl, h1⟩ | ⟨rfl, h1⟩ <;> rcases h2 with ⟨rfl, h2⟩ | ⟨rfl, h2⟩
  · exfalso; omega
  · rfl
  · rfl
  · apply Int64.toInt_inj.mp; simp only [Int64.reduceToInt]; omega
def Q1 (Z : State) (q1 q2 : Int64) (h0 : Heap) (n0 : Nat) (v : Option Value) (h : Heap) (L : List Loc) : Prop := (∃ r : Int64, v = some (.long r) ∧ ((r = q1 + q2 ∧ q2 < (9223372036854775807 : Int64) - q1) ∨ (r = (9223372036854775807 : Int64) ∧ ¬ q2 < (9223372036854775807 : Int64) - q1))) ∧ Fr n0 L ∧ h = h0
theorem d1_0 : decode prog_5_method_4_code 0 = .ok (.lload_n 2, 1) := by decide +kernel
theorem d1_1 : decode prog_5_method_4_code 1 = .ok (.ldc2_w 50, 3) := by decide +kernel
theorem d1_4 : decode prog_5_method_4_code 4 = .ok (.lload_n 0, 1) := by decide +kernel
theorem d1_5 : decode prog_5_method_4_code 5 = .ok (.lsub, 1) := by decide +kernel
theorem d1_6 : decode prog_5_method_4_code 6 = .ok (.lcmp, 1) := by decide +kernel
theorem d1_7 : decode prog_5_method_4_code 7 = .ok (.ifCond .ge 9, 3) := by decide +kernel
theorem d1_10 : decode prog_5_method_4_code 10 = .ok (.lload_n 0, 1) := by decide +kernel
theorem d1_11 : decode prog_5_method_4_code 11 = .ok (.lload_n 2, 1) := by decide +kernel
theorem d1_12 : decode prog_5_method_4_code 12 = .ok (.ladd, 1) := by decide +kernel
theorem d1_13 : decode prog_5_method_4_code 13 = .ok (.goto 6, 3) := by decide +kernel
theorem d1_19 : decode prog_5_method_4_code 19 = .ok (.lreturn, 1) := by decide +kernel
theorem d1_16 : decode prog_5_method_4_code 16 = .ok (.ldc2_w 50, 3) := by decide +kernel
theorem ef_1 (m : MethodId) (q1 : Int64) (q2 : Int64) : entryFrame m #[(.long q1), (.long q2)] 4 = mkF m 0 #[.val (.long q1), .second, .val (.long q2), .second] [] := by first | (simp [entryFrame, mkF, argsToLocals, Value.category]; done) | rfl
theorem pn_0 : plainName "com/example/tidewheel/tidewheel/ScheduledTask" = true := by first | (simp [plainName, overriddenIn]; done) | decide +kernel
set_option maxRecDepth 65536 in
set_option maxHeartbeats 40000000 in
theorem rm1 (l : Launch) (Z : State) (a0 : Array Value) (hw : ∀ d ∈ tables_1, d.before a0 Z = true) (ws : List Jvm.Cond) (q1 : Int64) (q2 : Int64)  (h0 : Heap) (n0 : Nat) (Z0 : n0 ≤ h0.size)  :
    MetFree l (⟨"com/example/tidewheel/tidewheel/ScheduledTask", "later", "(JJ)J"⟩ : MethodName) (head1 (Jvm.Cond.code (⟨"com/example/tidewheel/tidewheel/ScheduledTask", "later", "(JJ)J"⟩ : MethodName) prog_5_method_4_code 4 (some .long) :: ws) ({ frames := 0, cells := 0, slots := 0, locals := 0 } : Room)) (fun a U => a = #[(.long q1), (.long q2)] ∧ Z.Warmed39 U.vm ∧ U.heap = h0) (fun _ _ _ _ _ => True) (fun _ U o U' => ∃ v L, o = .returned v ∧ Q1 Z q1 q2 h0 n0 v U'.heap L ∧ FrameEnd U o U' L ({ frames := 0, cells := 0, slots := 0, locals := 0 } : Room).cells ({ frames := 0, cells := 0, slots := 0, locals := 0 } : Room).slots) := by
  refine MetFree.of_bodySF (plainFor_of_name pn_0) hisR ?_
  intro p e s m args below meth c s₁ Bd hml0 hP hK
  obtain ⟨rfl, hZ, hh⟩ := hP
  have hx := Bd.exec
  have hby := Bd.bytes
  have hml : c.maxLocals = 4 := hml0
  have hown : s.vm.findClass "com/example/tidewheel/tidewheel/ScheduledTask" = some m.cls := findClass_of_methodNamed Bd.named
  have hnm := (name_of_methodNamed Bd.named Bd.method).1
  have X0 : Stand p l e ({ frames := 0, cells := 0, slots := 0, locals := 0 } : Room) s m #[(.long q1), (.long q2)] below meth c s₁ [] 0 0 := Stand.of_body Bd
  have e0 : s₁.heap = h0 := by rw [← hh, Bd.state]; rfl
  have N0 := Fr.nil n0
  have pre0 : ∀ t, Steps p.tables e below (s₁.setTop (mkF m 0 #[.val (.long q1), .second, .val (.long q2), .second] [])) t → Steps p.tables e below (s₁.setTop (entryFrame m #[(.long q1), (.long q2)] 4)) t := fun t k => castTop (ef_1 m q1 q2) k
  have pre1 : ∀ t, Steps p.tables e below (s₁.setTop (mkF m 7 #[.val (.long q1), .second, .val (.long q2), .second] [(.int (lcmpW q2 ((9223372036854775807 : Int64) - q1)))])) t → Steps p.tables e below (s₁.setTop (entryFrame m #[(.long q1), (.long q2)] 4)) t := by
    intro t k
    refine pre0 t ?_
    show Steps p.tables e below (s₁.setTop (mkF m 0 #[.val (.long q1), .second, .val (.long q2), .second] [])) _
    refine XS.lloadN X0.here hx rfl (hb hby d1_0) rfl ?_
    show Steps p.tables e below (s₁.setTop (mkF m 1 #[.val (.long q1), .second, .val (.long q2), .second] [(.long q2)])) _
    refine X0.ldc2Long hx hown (mvT hZ (hw _ (List.mem_of_getElem? (i := 5) rfl))) (g := (mkF m 1 #[.val (.long q1), .second, .val (.long q2), .second] [(.long q2)])) rfl (hb hby d1_1) _ ?_
    show Steps p.tables e below (s₁.setTop (mkF m 4 #[.val (.long q1), .second, .val (.long q2), .second] [(.long (9223372036854775807 : Int64)), (.long q2)])) _
    refine XS.lloadN X0.here hx rfl (hb hby d1_4) rfl ?_
    show Steps p.tables e below (s₁.setTop (mkF m 5 #[.val (.long q1), .second, .val (.long q2), .second] [(.long q1), (.long (9223372036854775807 : Int64)), (.long q2)])) _
    refine XS.lsub X0.here hx rfl (hb hby d1_5) rfl ?_
    show Steps p.tables e below (s₁.setTop (mkF m 6 #[.val (.long q1), .second, .val (.long q2), .second] [(.long ((9223372036854775807 : Int64) - q1)), (.long q2)])) _
    refine XS.lcmp X0.here hx rfl (hb hby d1_6) rfl ?_
    exact k
  by_cases c7 : q2 < (9223372036854775807 : Int64) - q1
  · obtain ⟨fs, hr, hrun, hended, hW, hsame⟩ := X0.leave (v := some (.long (q1 + q2))) (fun h => by rw [Bd.returns] at h; cases h) (hlocks := BodyLoose.notSynchronized Bd)
    refine ⟨_, _, pre1 _ ?_, hrun, hended, _, _, rfl, ?_, ⟨_, rfl⟩, hW, hsame.mono (by decide) (by decide)⟩
    · show Steps p.tables e below (s₁.setTop (mkF m 7 #[.val (.long q1), .second, .val (.long q2), .second] [(.int (lcmpW q2 ((9223372036854775807 : Int64) - q1)))])) _
      refine XS.ifNo X0.here hx rfl (hb hby d1_7) rfl ((if0 _ _).trans (tlt ((lw_lt _ _).mpr c7)).2.1) ?_
      show Steps p.tables e below (s₁.setTop (mkF m 10 #[.val (.long q1), .second, .val (.long q2), .second] [])) _
      refine XS.lloadN X0.here hx rfl (hb hby d1_10) rfl ?_
      show Steps p.tables e below (s₁.setTop (mkF m 11 #[.val (.long q1), .second, .val (.long q2), .second] [(.long q1)])) _
      refine XS.lloadN X0.here hx rfl (hb hby d1_11) rfl ?_
      show Steps p.tables e below (s₁.setTop (mkF m 12 #[.val (.long q1), .second, .val (.long q2), .second] [(.long q2), (.long q1)])) _
      refine XS.ladd X0.here hx rfl (hb hby d1_12) rfl ?_
      show Steps p.tables e below (s₁.setTop (mkF m 13 #[.val (.long q1), .second, .val (.long q2), .second] [(.long (q1 + q2))])) _
      refine XS.goto X0.here hx rfl (pc0 := 13) (pc' := 19) rfl (hb hby d1_13) (by decide) (by decide) ?_
      show Steps p.tables e below (s₁.setTop (mkF m 19 #[.val (.long q1), .second, .val (.long q2), .second] [(.long (q1 + q2))])) _
      exact retOut X0 hx (t := .long) Bd.returns rfl (Or.inr (Or.inl ⟨rfl, rfl, _, rfl⟩)) (hb hby d1_19) hr
    · show Q1 Z q1 q2 h0 n0 _ s₁.heap _
      rw [e0]
      exact ⟨⟨_, rfl, Or.inl ⟨rfl, c7⟩⟩, N0, rfl⟩
  · obtain ⟨fs, hr, hrun, hended, hW, hsame⟩ := X0.leave (v := some (.long (9223372036854775807 : Int64))) (fun h => by rw [Bd.returns] at h; cases h) (hlocks := BodyLoose.notSynchronized Bd)
    refine ⟨_, _, pre1 _ ?_, hrun, hended, _, _, rfl, ?_, ⟨_, rfl⟩, hW, hsame.mono (by decide) (by decide)⟩
    · show Steps p.tables e below (s₁.setTop (mkF m 7 #[.val (.long q1), .second, .val (.long q2), .second] [(.int (lcmpW q2 ((9223372036854775807 : Int64) - q1)))])) _
      refine XS.ifYes X0.here hx rfl (pc0 := 7) (pc' := 16) rfl (hb hby d1_7) rfl ((if0 _ _).trans (flt (fun z => c7 ((lw_lt _ _).mp z))).2.1) (by decide) (by decide) ?_
      show Steps p.tables e below (s₁.setTop (mkF m 16 #[.val (.long q1), .second, .val (.long q2), .second] [])) _
      refine X0.ldc2Long hx hown (mvT hZ (hw _ (List.mem_of_getElem? (i := 5) rfl))) (g := (mkF m 16 #[.val (.long q1), .second, .val (.long q2), .second] [])) rfl (hb hby d1_16) _ ?_
      show Steps p.tables e below (s₁.setTop (mkF m 19 #[.val (.long q1), .second, .val (.long q2), .second] [(.long (9223372036854775807 : Int64))])) _
      exact retOut X0 hx (t := .long) Bd.returns rfl (Or.inr (Or.inl ⟨rfl, rfl, _, rfl⟩)) (hb hby d1_19) hr
    · show Q1 Z q1 q2 h0 n0 _ s₁.heap _
      rw [e0]
      exact ⟨⟨_, rfl, Or.inr ⟨rfl, c7⟩⟩, N0, rfl⟩
def Q0 (Z : State) (d n : Int64) (h0 : Heap) (n0 : Nat) (v : Option Value) (h : Heap) (L : List Loc) : Prop := v = some (.int (1 : Int32)) ∧ Fr n0 L
theorem pd_0 : parseMethodDescriptor "(JJ)J" = some ⟨[.long, .long], some .long⟩ := by decide +kernel
theorem ef_0 (m : MethodId) (d : Int64) (n : Int64) : entryFrame m #[(.long d), (.long n)] maxLocals = mkF m 0 #[.val (.long d), .second, .val (.long n), .second, .unset, .unset, .unset, .unset, .unset, .unset, .unset, .unset, .unset, .unset] [] := by first | (simp [entryFrame, mkF, argsToLocals, Value.category, maxLocals]; done) | rfl
theorem pn_1 : plainName "com/example/tidewheel/tidewheel/ScheduledTaskLaterPinLaw" = true := by first | (simp [plainName, overriddenIn]; done) | decide +kernel
set_option maxRecDepth 65536 in
set_option maxHeartbeats 40000000 in
theorem rm0 (l : Launch) (Z : State) (a0 : Array Value) (hw : ∀ d ∈ tables_1, d.before a0 Z = true) (ws : List Jvm.Cond) (d : Int64) (n : Int64)  (h0 : Heap) (n0 : Nat) (Z0 : n0 ≤ h0.size)  :
    MetFree l x (head1 (Jvm.Cond.code x code maxLocals ret :: ws) room_1) (fun a U => a = #[(.long d), (.long n)] ∧ Z.Warmed39 U.vm ∧ U.heap = h0) (fun _ _ _ _ _ => True) (fun _ U o U' => ∃ v L, o = .returned v ∧ Q0 Z d n h0 n0 v U'.heap L ∧ FrameEnd U o U' L room_1.cells room_1.slots) := by
  refine MetFree.of_bodySF (plainFor_of_name pn_1) hisR ?_
  intro p e s m args below meth c s₁ Bd hml0 hP hK
  obtain ⟨rfl, hZ, hh⟩ := hP
  have hx := Bd.exec
  have hby := Bd.bytes
  have hml : c.maxLocals = 14 := hml0
  have hown : s.vm.findClass "com/example/tidewheel/tidewheel/ScheduledTaskLaterPinLaw" = some m.cls := findClass_of_methodNamed Bd.named
  have hnm := (name_of_methodNamed Bd.named Bd.method).1
  have X0 : Stand p l e room_1 s m #[(.long d), (.long n)] below meth c s₁ [] 0 0 := Stand.of_body Bd
  have e0 : s₁.heap = h0 := by rw [← hh, Bd.state]; rfl
  have N0 := Fr.nil n0
  have pre0 : ∀ t, Steps p.tables e below (s₁.setTop (mkF m 0 #[.val (.long d), .second, .val (.long n), .second, .unset, .unset, .unset, .unset, .unset, .unset, .unset, .unset, .unset, .unset] [])) t → Steps p.tables e below (s₁.setTop (entryFrame m #[(.long d), (.long n)] maxLocals)) t := fun t k => castTop (ef_0 m d n) k
  obtain ⟨_, _, ⟨T1, L1, k1, n1⟩, -, X1, ⟨Lc1, hQ1, l1, y1, z1⟩, st1⟩ := Jvm.LawKit.callS X0 hx (y := (⟨"com/example/tidewheel/tidewheel/ScheduledTask", "later", "(JJ)J"⟩ : MethodName)) hown (mvT hZ (hw _ (List.mem_of_getElem? (i := 1) rfl))) (mvT hZ (hw _ (List.mem_of_getElem? (i := 2) rfl))) (mvT hZ (hw _ (List.mem_of_getElem? (i := 3) rfl))) (mvT hZ (hw _ (List.mem_of_getElem? (i := 4) rfl))) (by decide) (backOf (W := 0) (rm1 l Z a0 hw [] (d &&& (9223372036854775807 : Int64)) (n &&& (9223372036854775807 : Int64)) h0 n0 Z0) hZ (hw _ (List.mem_of_getElem? (i := 4) rfl)) (hw _ (List.mem_of_getElem? (i := 3) rfl)) (by decide) (by decide)) (g := (mkF m 18 #[.val (.long d), .second, .val (.long n), .second, .val (.long (d &&& (9223372036854775807 : Int64))), .second, .val (.long (n &&& (9223372036854775807 : Int64))), .second, .unset, .unset, .unset, .unset, .unset, .unset] [(.long (n &&& (9223372036854775807 : Int64))), (.long (d &&& (9223372036854775807 : Int64)))])) rfl (by rw [hml]; rfl) (argsL := [(.long (d &&& (9223372036854775807 : Int64))), (.long (n &&& (9223372036854775807 : Int64)))]) (rest := []) (lenOf pd_0 rfl) rfl (by show 2 * 0 + _ ≤ _; exact Nat.le_of_eq rfl) (hb hby at_18) (fun _ _ => ⟨rfl, e0, (by decide : 0 + 0 ≤ _), (by decide : 0 + 0 ≤ _)⟩)
  dsimp only [Pt.U, Pt.locs, Pt.cells, Pt.slots] at X1 l1 y1 z1 st1 hQ1
  subst l1 y1 z1
  obtain ⟨⟨r, rfl, hr1⟩, N1q, e1⟩ := hQ1
  have N1 := Fr.app N0 N1q
  have pre2 : ∀ t, Steps p.tables e below (T1.setTop (mkF m 34 #[.val (.long d), .second, .val (.long n), .second, .val (.long (d &&& (9223372036854775807 : Int64))), .second, .val (.long (n &&& (9223372036854775807 : Int64))), .second, .val (.long r), .second, .val (.long ((d &&& (9223372036854775807 : Int64)) + (n &&& (9223372036854775807 : Int64)))), .second, .unset, .unset] [(.int (lcmpW ((d &&& (9223372036854775807 : Int64)) + (n &&& (9223372036854775807 : Int64))) (0 : Int64)))])) t → Steps p.tables e below (s₁.setTop (entryFrame m #[(.long d), (.long n)] maxLocals)) t := by
    intro t k
    refine pre0 t ?_
    show Steps p.tables e below (s₁.setTop (mkF m 0 #[.val (.long d), .second, .val (.long n), .second, .unset, .unset, .unset, .unset, .unset, .unset, .unset, .unset, .unset, .unset] [])) _
    refine XS.lloadN X0.here hx rfl (hb hby at_0) rfl ?_
    show Steps p.tables e below (s₁.setTop (mkF m 1 #[.val (.long d), .second, .val (.long n), .second, .unset, .unset, .unset, .unset, .unset, .unset, .unset, .unset, .unset, .unset] [(.long d)])) _
    refine X0.ldc2Long hx hown (mvT hZ (hw _ (List.mem_of_getElem? (i := 0) rfl))) (g := (mkF m 1 #[.val (.long d), .second, .val (.long n), .second, .unset, .unset, .unset, .unset, .unset, .unset, .unset, .unset, .unset, .unset] [(.long d)])) rfl (hb hby at_1) _ ?_
    show Steps p.tables e below (s₁.setTop (mkF m 4 #[.val (.long d), .second, .val (.long n), .second, .unset, .unset, .unset, .unset, .unset, .unset, .unset, .unset, .unset, .unset] [(.long (9223372036854775807 : Int64)), (.long d)])) _
    refine XS.land X0.here hx rfl (hb hby at_4) rfl ?_
    show Steps p.tables e below (s₁.setTop (mkF m 5 #[.val (.long d), .second, .val (.long n), .second, .unset, .unset, .unset, .unset, .unset, .unset, .unset, .unset, .unset, .unset] [(.long (d &&& (9223372036854775807 : Int64)))])) _
    refine XS.lstore X0.here hx rfl (hb hby at_5) rfl (l' := #[.val (.long d), .second, .val (.long n), .second, .val (.long (d &&& (9223372036854775807 : Int64))), .second, .unset, .unset, .unset, .unset, .unset, .unset, .unset, .unset]) rfl ?_
    show Steps p.tables e below (s₁.setTop (mkF m 7 #[.val (.long d), .second, .val (.long n), .second, .val (.long (d &&& (9223372036854775807 : Int64))), .second, .unset, .unset, .unset, .unset, .unset, .unset, .unset, .unset] [])) _
    refine XS.lloadN X0.here hx rfl (hb hby at_7) rfl ?_
    show Steps p.tables e below (s₁.setTop (mkF m 8 #[.val (.long d), .second, .val (.long n), .second, .val (.long (d &&& (9223372036854775807 : Int64))), .second, .unset, .unset, .unset, .unset, .unset, .unset, .unset, .unset] [(.long n)])) _
    refine X0.ldc2Long hx hown (mvT hZ (hw _ (List.mem_of_getElem? (i := 0) rfl))) (g := (mkF m 8 #[.val (.long d), .second, .val (.long n), .second, .val (.long (d &&& (9223372036854775807 : Int64))), .second, .unset, .unset, .unset, .unset, .unset, .unset, .unset, .unset] [(.long n)])) rfl (hb hby at_8) _ ?_
    show Steps p.tables e below (s₁.setTop (mkF m 11 #[.val (.long d), .second, .val (.long n), .second, .val (.long (d &&& (9223372036854775807 : Int64))), .second, .unset, .unset, .unset, .unset, .unset, .unset, .unset, .unset] [(.long (9223372036854775807 : Int64)), (.long n)])) _
    refine XS.land X0.here hx rfl (hb hby at_11) rfl ?_
    show Steps p.tables e below (s₁.setTop (mkF m 12 #[.val (.long d), .second, .val (.long n), .second, .val (.long (d &&& (9223372036854775807 : Int64))), .second, .unset, .unset, .unset, .unset, .unset, .unset, .unset, .unset] [(.long (n &&& (9223372036854775807 : Int64)))])) _
    refine XS.lstore X0.here hx rfl (hb hby at_12) rfl (l' := #[.val (.long d), .second, .val (.long n), .second, .val (.long (d &&& (9223372036854775807 : Int64))), .second, .val (.long (n &&& (9223372036854775807 : Int64))), .second, .unset, .unset, .unset, .unset, .unset, .unset]) rfl ?_
    show Steps p.tables e below (s₁.setTop (mkF m 14 #[.val (.long d), .second, .val (.long n), .second, .val (.long (d &&& (9223372036854775807 : Int64))), .second, .val (.long (n &&& (9223372036854775807 : Int64))), .second, .unset, .unset, .unset, .unset, .unset, .unset] [])) _
    refine XS.lload X0.here hx rfl (hb hby at_14) rfl ?_
    show Steps p.tables e below (s₁.setTop (mkF m 16 #[.val (.long d), .second, .val (.long n), .second, .val (.long (d &&& (9223372036854775807 : Int64))), .second, .val (.long (n &&& (9223372036854775807 : Int64))), .second, .unset, .unset, .unset, .unset, .unset, .unset] [(.long (d &&& (9223372036854775807 : Int64)))])) _
    refine XS.lload X0.here hx rfl (hb hby at_16) rfl ?_
    show Steps p.tables e below (s₁.setTop (mkF m 18 #[.val (.long d), .second, .val (.long n), .second, .val (.long (d &&& (9223372036854775807 : Int64))), .second, .val (.long (n &&& (9223372036854775807 : Int64))), .second, .unset, .unset, .unset, .unset, .unset, .unset] [(.long (n &&& (9223372036854775807 : Int64))), (.long (d &&& (9223372036854775807 : Int64)))])) _
    refine st1 _ ?_
    show Steps p.tables e below (T1.setTop (mkF m 21 #[.val (.long d), .second, .val (.long n), .second, .val (.long (d &&& (9223372036854775807 : Int64))), .second, .val (.long (n &&& (9223372036854775807 : Int64))), .second, .unset, .unset, .unset, .unset, .unset, .unset] [(.long r)])) _
    refine XS.lstore X1.here hx rfl (hb hby at_21) rfl (l' := #[.val (.long d), .second, .val (.long n), .second, .val (.long (d &&& (9223372036854775807 : Int64))), .second, .val (.long (n &&& (9223372036854775807 : Int64))), .second, .val (.long r), .second, .unset, .unset, .unset, .unset]) rfl ?_
    show Steps p.tables e below (T1.setTop (mkF m 23 #[.val (.long d), .second, .val (.long n), .second, .val (.long (d &&& (9223372036854775807 : Int64))), .second, .val (.long (n &&& (9223372036854775807 : Int64))), .second, .val (.long r), .second, .unset, .unset, .unset, .unset] [])) _
    refine XS.lload X1.here hx rfl (hb hby at_23) rfl ?_
    show Steps p.tables e below (T1.setTop (mkF m 25 #[.val (.long d), .second, .val (.long n), .second, .val (.long (d &&& (9223372036854775807 : Int64))), .second, .val (.long (n &&& (9223372036854775807 : Int64))), .second, .val (.long r), .second, .unset, .unset, .unset, .unset] [(.long (d &&& (9223372036854775807 : Int64)))])) _
    refine XS.lload X1.here hx rfl (hb hby at_25) rfl ?_
    show Steps p.tables e below (T1.setTop (mkF m 27 #[.val (.long d), .second, .val (.long n), .second, .val (.long (d &&& (9223372036854775807 : Int64))), .second, .val (.long (n &&& (9223372036854775807 : Int64))), .second, .val (.long r), .second, .unset, .unset, .unset, .unset] [(.long (n &&& (9223372036854775807 : Int64))), (.long (d &&& (9223372036854775807 : Int64)))])) _
    refine XS.ladd X1.here hx rfl (hb hby at_27) rfl ?_
    show Steps p.tables e below (T1.setTop (mkF m 28 #[.val (.long d), .second, .val (.long n), .second, .val (.long (d &&& (9223372036854775807 : Int64))), .second, .val (.long (n &&& (9223372036854775807 : Int64))), .second, .val (.long r), .second, .unset, .unset, .unset, .unset] [(.long ((d &&& (9223372036854775807 : Int64)) + (n &&& (9223372036854775807 : Int64))))])) _
    refine XS.lstore X1.here hx rfl (hb hby at_28) rfl (l' := #[.val (.long d), .second, .val (.long n), .second, .val (.long (d &&& (9223372036854775807 : Int64))), .second, .val (.long (n &&& (9223372036854775807 : Int64))), .second, .val (.long r), .second, .val (.long ((d &&& (9223372036854775807 : Int64)) + (n &&& (9223372036854775807 : Int64)))), .second, .unset, .unset]) rfl ?_
    show Steps p.tables e below (T1.setTop (mkF m 30 #[.val (.long d), .second, .val (.long n), .second, .val (.long (d &&& (9223372036854775807 : Int64))), .second, .val (.long (n &&& (9223372036854775807 : Int64))), .second, .val (.long r), .second, .val (.long ((d &&& (9223372036854775807 : Int64)) + (n &&& (9223372036854775807 : Int64)))), .second, .unset, .unset] [])) _
    refine XS.lload X1.here hx rfl (hb hby at_30) rfl ?_
    show Steps p.tables e below (T1.setTop (mkF m 32 #[.val (.long d), .second, .val (.long n), .second, .val (.long (d &&& (9223372036854775807 : Int64))), .second, .val (.long (n &&& (9223372036854775807 : Int64))), .second, .val (.long r), .second, .val (.long ((d &&& (9223372036854775807 : Int64)) + (n &&& (9223372036854775807 : Int64)))), .second, .unset, .unset] [(.long ((d &&& (9223372036854775807 : Int64)) + (n &&& (9223372036854775807 : Int64))))])) _
    refine XS.lconst X1.here hx rfl (hb hby at_32) ?_
    show Steps p.tables e below (T1.setTop (mkF m 33 #[.val (.long d), .second, .val (.long n), .second, .val (.long (d &&& (9223372036854775807 : Int64))), .second, .val (.long (n &&& (9223372036854775807 : Int64))), .second, .val (.long r), .second, .val (.long ((d &&& (9223372036854775807 : Int64)) + (n &&& (9223372036854775807 : Int64)))), .second, .unset, .unset] [(.long (0 : Int64)), (.long ((d &&& (9223372036854775807 : Int64)) + (n &&& (9223372036854775807 : Int64))))])) _
    refine XS.lcmp X1.here hx rfl (hb hby at_33) rfl ?_
    exact k
  obtain ⟨ex, hs3, pre3⟩ : ∃ (ex : Int64), ((ex = (9223372036854775807 : Int64) ∧ ((d &&& (9223372036854775807 : Int64)) + (n &&& (9223372036854775807 : Int64))) < (0 : Int64)) ∨ (ex = ((d &&& (9223372036854775807 : Int64)) + (n &&& (9223372036854775807 : Int64))) ∧ ¬ ((d &&& (9223372036854775807 : Int64)) + (n &&& (9223372036854775807 : Int64))) < (0 : Int64))) ∧ ∀ t, Steps p.tables e below (T1.setTop (mkF m 45 #[.val (.long d), .second, .val (.long n), .second, .val (.long (d &&& (9223372036854775807 : Int64))), .second, .val (.long (n &&& (9223372036854775807 : Int64))), .second, .val (.long r), .second, .val (.long ((d &&& (9223372036854775807 : Int64)) + (n &&& (9223372036854775807 : Int64)))), .second, .unset, .unset] [(.long ex)])) t → Steps p.tables e below (s₁.setTop (entryFrame m #[(.long d), (.long n)] maxLocals)) t := by
    by_cases c34 : ((d &&& (9223372036854775807 : Int64)) + (n &&& (9223372036854775807 : Int64))) < (0 : Int64)
    · refine ⟨(9223372036854775807 : Int64), Or.inl ⟨rfl, c34⟩, fun t k => pre2 t ?_⟩
      show Steps p.tables e below (T1.setTop (mkF m 34 #[.val (.long d), .second, .val (.long n), .second, .val (.long (d &&& (9223372036854775807 : Int64))), .second, .val (.long (n &&& (9223372036854775807 : Int64))), .second, .val (.long r), .second, .val (.long ((d &&& (9223372036854775807 : Int64)) + (n &&& (9223372036854775807 : Int64)))), .second, .unset, .unset] [(.int (lcmpW ((d &&& (9223372036854775807 : Int64)) + (n &&& (9223372036854775807 : Int64))) (0 : Int64)))])) _
      refine XS.ifNo X1.here hx rfl (hb hby at_34) rfl ((if0 _ _).trans (tlt ((lw_lt _ _).mpr c34)).2.1) ?_
      show Steps p.tables e below (T1.setTop (mkF m 37 #[.val (.long d), .second, .val (.long n), .second, .val (.long (d &&& (9223372036854775807 : Int64))), .second, .val (.long (n &&& (9223372036854775807 : Int64))), .second, .val (.long r), .second, .val (.long ((d &&& (9223372036854775807 : Int64)) + (n &&& (9223372036854775807 : Int64)))), .second, .unset, .unset] [])) _
      refine X1.ldc2Long hx hown (mvT hZ (hw _ (List.mem_of_getElem? (i := 0) rfl))) (g := (mkF m 37 #[.val (.long d), .second, .val (.long n), .second, .val (.long (d &&& (9223372036854775807 : Int64))), .second, .val (.long (n &&& (9223372036854775807 : Int64))), .second, .val (.long r), .second, .val (.long ((d &&& (9223372036854775807 : Int64)) + (n &&& (9223372036854775807 : Int64)))), .second, .unset, .unset] [])) rfl (hb hby at_37) _ ?_
      show Steps p.tables e below (T1.setTop (mkF m 40 #[.val (.long d), .second, .val (.long n), .second, .val (.long (d &&& (9223372036854775807 : Int64))), .second, .val (.long (n &&& (9223372036854775807 : Int64))), .second, .val (.long r), .second, .val (.long ((d &&& (9223372036854775807 : Int64)) + (n &&& (9223372036854775807 : Int64)))), .second, .unset, .unset] [(.long (9223372036854775807 : Int64))])) _
      refine XS.goto X1.here hx rfl (pc0 := 40) (pc' := 45) rfl (hb hby at_40) (by decide) (by decide) ?_
      exact k
    · refine ⟨((d &&& (9223372036854775807 : Int64)) + (n &&& (9223372036854775807 : Int64))), Or.inr ⟨rfl, c34⟩, fun t k => pre2 t ?_⟩
      show Steps p.tables e below (T1.setTop (mkF m 34 #[.val (.long d), .second, .val (.long n), .second, .val (.long (d &&& (9223372036854775807 : Int64))), .second, .val (.long (n &&& (9223372036854775807 : Int64))), .second, .val (.long r), .second, .val (.long ((d &&& (9223372036854775807 : Int64)) + (n &&& (9223372036854775807 : Int64)))), .second, .unset, .unset] [(.int (lcmpW ((d &&& (9223372036854775807 : Int64)) + (n &&& (9223372036854775807 : Int64))) (0 : Int64)))])) _
      refine XS.ifYes X1.here hx rfl (pc0 := 34) (pc' := 43) rfl (hb hby at_34) rfl ((if0 _ _).trans (flt (fun z => c34 ((lw_lt _ _).mp z))).2.1) (by decide) (by decide) ?_
      show Steps p.tables e below (T1.setTop (mkF m 43 #[.val (.long d), .second, .val (.long n), .second, .val (.long (d &&& (9223372036854775807 : Int64))), .second, .val (.long (n &&& (9223372036854775807 : Int64))), .second, .val (.long r), .second, .val (.long ((d &&& (9223372036854775807 : Int64)) + (n &&& (9223372036854775807 : Int64)))), .second, .unset, .unset] [])) _
      refine XS.lload X1.here hx rfl (hb hby at_43) rfl ?_
      exact k
  have hq : r = ex := own_later d n r ex hr1 hs3
  obtain ⟨fs, hr, hrun, hended, hW, hsame⟩ := X1.leave (v := some (.int (1 : Int32))) (fun h => by rw [Bd.returns] at h; cases h) (hlocks := BodyLoose.notSynchronized Bd)
  refine ⟨_, _, pre3 _ ?_, hrun, hended, _, _, rfl, ?_, ⟨_, rfl⟩, hW, hsame.mono (by decide) (by decide)⟩
  · show Steps p.tables e below (T1.setTop (mkF m 45 #[.val (.long d), .second, .val (.long n), .second, .val (.long (d &&& (9223372036854775807 : Int64))), .second, .val (.long (n &&& (9223372036854775807 : Int64))), .second, .val (.long r), .second, .val (.long ((d &&& (9223372036854775807 : Int64)) + (n &&& (9223372036854775807 : Int64)))), .second, .unset, .unset] [(.long ex)])) _
    refine XS.lstore X1.here hx rfl (hb hby at_45) rfl (l' := #[.val (.long d), .second, .val (.long n), .second, .val (.long (d &&& (9223372036854775807 : Int64))), .second, .val (.long (n &&& (9223372036854775807 : Int64))), .second, .val (.long r), .second, .val (.long ((d &&& (9223372036854775807 : Int64)) + (n &&& (9223372036854775807 : Int64)))), .second, .val (.long ex), .second]) rfl ?_
    show Steps p.tables e below (T1.setTop (mkF m 47 #[.val (.long d), .second, .val (.long n), .second, .val (.long (d &&& (9223372036854775807 : Int64))), .second, .val (.long (n &&& (9223372036854775807 : Int64))), .second, .val (.long r), .second, .val (.long ((d &&& (9223372036854775807 : Int64)) + (n &&& (9223372036854775807 : Int64)))), .second, .val (.long ex), .second] [])) _
    refine XS.lload X1.here hx rfl (hb hby at_47) rfl ?_
    show Steps p.tables e below (T1.setTop (mkF m 49 #[.val (.long d), .second, .val (.long n), .second, .val (.long (d &&& (9223372036854775807 : Int64))), .second, .val (.long (n &&& (9223372036854775807 : Int64))), .second, .val (.long r), .second, .val (.long ((d &&& (9223372036854775807 : Int64)) + (n &&& (9223372036854775807 : Int64)))), .second, .val (.long ex), .second] [(.long r)])) _
    refine XS.lload X1.here hx rfl (hb hby at_49) rfl ?_
    show Steps p.tables e below (T1.setTop (mkF m 51 #[.val (.long d), .second, .val (.long n), .second, .val (.long (d &&& (9223372036854775807 : Int64))), .second, .val (.long (n &&& (9223372036854775807 : Int64))), .second, .val (.long r), .second, .val (.long ((d &&& (9223372036854775807 : Int64)) + (n &&& (9223372036854775807 : Int64)))), .second, .val (.long ex), .second] [(.long ex), (.long r)])) _
    refine XS.lcmp X1.here hx rfl (hb hby at_51) rfl ?_
    show Steps p.tables e below (T1.setTop (mkF m 52 #[.val (.long d), .second, .val (.long n), .second, .val (.long (d &&& (9223372036854775807 : Int64))), .second, .val (.long (n &&& (9223372036854775807 : Int64))), .second, .val (.long r), .second, .val (.long ((d &&& (9223372036854775807 : Int64)) + (n &&& (9223372036854775807 : Int64)))), .second, .val (.long ex), .second] [(.int (lcmpW r ex))])) _
    refine XS.ifNo X1.here hx rfl (hb hby at_52) rfl ((if0 _ _).trans (teq ((lw_eq _ _).mpr hq)).2) ?_
    show Steps p.tables e below (T1.setTop (mkF m 55 #[.val (.long d), .second, .val (.long n), .second, .val (.long (d &&& (9223372036854775807 : Int64))), .second, .val (.long (n &&& (9223372036854775807 : Int64))), .second, .val (.long r), .second, .val (.long ((d &&& (9223372036854775807 : Int64)) + (n &&& (9223372036854775807 : Int64)))), .second, .val (.long ex), .second] [])) _
    refine XS.iconst X1.here hx rfl (hb hby at_55) ?_
    show Steps p.tables e below (T1.setTop (mkF m 56 #[.val (.long d), .second, .val (.long n), .second, .val (.long (d &&& (9223372036854775807 : Int64))), .second, .val (.long (n &&& (9223372036854775807 : Int64))), .second, .val (.long r), .second, .val (.long ((d &&& (9223372036854775807 : Int64)) + (n &&& (9223372036854775807 : Int64)))), .second, .val (.long ex), .second] [(.int (1 : Int32))])) _
    refine XS.goto X1.here hx rfl (pc0 := 56) (pc' := 60) rfl (hb hby at_56) (by decide) (by decide) ?_
    show Steps p.tables e below (T1.setTop (mkF m 60 #[.val (.long d), .second, .val (.long n), .second, .val (.long (d &&& (9223372036854775807 : Int64))), .second, .val (.long (n &&& (9223372036854775807 : Int64))), .second, .val (.long r), .second, .val (.long ((d &&& (9223372036854775807 : Int64)) + (n &&& (9223372036854775807 : Int64)))), .second, .val (.long ex), .second] [(.int (1 : Int32))])) _
    exact retN X1 hx (t := .boolean) Bd.returns (by simp) (hb hby at_60) hr
  · show Q0 Z d n h0 n0 _ T1.heap _
    rw [e1]
    exact ⟨rfl, N1⟩
set_option maxRecDepth 65536 in
set_option maxHeartbeats 40000000 in
theorem comes_1 {Post : Tables → Env → Array Value → State → Outcome → State → Prop} (hpost : ∀ tb e args s v u, (limb_1_1.after args s (.returned v) u = true ∧ limb_1_2.after args s (.returned v) u = true ∧ True) → FrameEnd s (.returned v) u (Jvm.fieldLocs frame_1_writes args s ++ Jvm.arrayLocs frame_1_arrays args s ++ Jvm.staticLocs frame_1_statics s) 0 0 → Post tb e args s (.returned v) u) :
    ArmFor flags0 classFile x code maxLocals ret World_1 tables_1 room_1 Calls_1 rest_1 Pre_1 Post := by
  intro l hfl _ _ p e ha hc hk s m args below hf hA hF happ hP
  obtain ⟨hcalls, hrest, hpre⟩ := hP
  obtain ⟨-, -, -, hnamed, -, -, -, hat⟩ := (Spec.applies_iff hf).mp happ
  obtain ⟨hg, hn⟩ := and_e (Cond.before_iff.mp (show (Jvm.Cond.and given_1 narrow_1).before args s = true from hpre))
  obtain ⟨hcount, r0⟩ := and_e hg
  obtain ⟨v0, r1⟩ := and_e r0
  obtain ⟨w0, w1, rfl⟩ : ∃ w0 w1 : Value, args = #[w0, w1] := by
    have hs : args.size = 2 := by simpa [Cond.value, given_1] using hcount
    obtain ⟨L⟩ := args
    match L, hs with
    | [w0, w1], _ => exact ⟨w0, w1, rfl⟩
  have hw := fun d (hd : d ∈ tables_1) => atoms_spec (ws := Jvm.Cond.code x code maxLocals ret :: tables_1) hat d (List.mem_cons_of_mem _ hd)
  obtain ⟨i0, ei0⟩ := isL_v v0
  obtain rfl : w0 = (.long i0) := Option.some.inj ei0
  obtain ⟨i1, ei1⟩ := isL_v r1
  obtain rfl : w1 = (.long i1) := Option.some.inj ei1
  obtain ⟨n, o, h1, h2, h3, _, L, rfl, ⟨rfl, N⟩, hq⟩ := rm0 l s _ hw tables_1 i0 i1 s.heap s.heap.size (Nat.le_refl _) p e ha hc hk s m _ below hf ((Spec.applies_iff_loose hf).mp happ).1 ⟨rfl, State.Warmed39.refl s, rfl⟩ trivial
  refine ⟨n, _, h1, h2, h3, hpost _ _ _ _ _ _ ⟨Cond.after_iff.mpr rfl, Cond.after_iff.mpr (eq_i res_at (Term.int_eval (1)) rfl), trivial⟩ ⟨hq.1, hq.2.1, (hq.2.2.sift fun y hy => Or.inr (N y hy)).mono (by decide) (by decide)⟩⟩
theorem main_1_1 : Claimed_1_1 := comes_1 fun _ _ _ _ _ _ h hF => ⟨h.1, hF⟩
theorem main_1_2 : Claimed_1_2 := comes_1 fun _ _ _ _ _ _ h hF => ⟨h.2.1, hF⟩
end Jvm.Pilot.@@N@@
namespace Jvm.Pilot.@@N@@
open Jvm Jvm.ClassFile Sem Op Lib Jvm.Free Jvm.Stand Jvm.Pilot.@@N@@.Jvm.D
/-! MADE BY PROGRAM (witnessworld.py) out of the Statement's table words and the real class files: 16 classes; the members and pool entries that the words name. The judged class is class 1, her method 1. -/
namespace start1
open Jvm.ClassFile
def u (s : String) : CpInfo := .utf8 (stringToUtf16 s)
/-- a pool by its gaps: so many unusable entries, then the entry; so many at the end -/
def gap : Nat → List CpInfo → List CpInfo
  | 0, r => r
  | n + 1, r => .unusable :: gap n r
def poolList (es : List (Nat × CpInfo)) (last : Nat) : List CpInfo := es.foldr (fun e r => gap e.1 (e.2 :: r)) (gap last [])
def pool (es : List (Nat × CpInfo)) (last : Nat) : Array CpInfo := ⟨poolList es last⟩
def fileOf (pool : Array CpInfo) (this : Nat) (attrs : Array Attribute := #[]) (ms : Array MethodInfo := #[]) (fl : Nat := 33) (sup : Nat := 0) (ifs : Array Nat := #[]) (fds : Array FieldInfo := #[]) : ClassFile where
  minorVersion := 0
  majorVersion := 65
  constantPool := pool
  accessFlags := fl
  thisClass := this
  superClass := sup
  interfaces := ifs
  fields := fds
  methods := ms
  attributes := attrs
def plain (name : String) (sup : Option ClassId) : Class where
  name := name
  kind := .ordinary
  loader := none
  accessFlags := 33
  super := sup
  interfaces := #[]
  cf := none
  fields := #[]
  methods := #[]
  instanceTypes := #[]
  staticTypes := #[]
  resolved := #[]
  callSites := []
  init := .initialized
  statics := none
  mirror := none

def pool0 : Array CpInfo := pool [(5, u "<init>"), (0, u "()V"), (1, .class_ 10), (1, u "java/lang/Object")] 113

def k0m0 : Method := { name := "<init>", desc := "()V", sig := { parameters := [], returnType := none }, accessFlags := 1, code := none }
/-- java/lang/Object -/
def k0 : Class := { plain "java/lang/Object" none with
  accessFlags := 33
  interfaces := #[]
  cf := some (fileOf pool0 8 #[] #[{ accessFlags := 1, nameIndex := 5, descriptorIndex := 6, attributes := #[] }] 33 0 #[] #[])
  fields := #[]
  methods := #[k0m0]
  instanceTypes := #[]
  staticTypes := #[]
  resolved := Array.replicate 124 none
  statics := none }

def pool1 : Array CpInfo := pool [(2, .class_ 4), (1, u "java/lang/Object"), (0, u "<init>"), (0, u "()V"), (2, .long 9223372036854775807), (1, .methodref 12 13), (0, .class_ 14), (0, .nameAndType 15 16), (0, u "com/example/tidewheel/tidewheel/ScheduledTask"), (0, u "later"), (0, u "(JJ)J"), (0, .class_ 18), (0, u "com/example/tidewheel/tidewheel/ScheduledTaskLaterPinLaw"), (2, u "law"), (0, u "(JJ)Z")] 3

def k1m0 : Method := { name := "<init>", desc := "()V", sig := { parameters := [], returnType := none }, accessFlags := 2, code := none }
def k1c1 : Code := { maxStack := 4, maxLocals := 14, code := code, exceptionTable := #[], attributes := #[] }
def k1m1 : Method := { name := "law", desc := "(JJ)Z", sig := { parameters := [.long, .long], returnType := some .boolean }, accessFlags := 9, code := some k1c1 }
/-- com/example/tidewheel/tidewheel/ScheduledTaskLaterPinLaw -/
def k1 : Class := { plain "com/example/tidewheel/tidewheel/ScheduledTaskLaterPinLaw" (some 0) with
  accessFlags := 49
  interfaces := #[]
  cf := some (fileOf pool1 17 #[] #[{ accessFlags := 2, nameIndex := 5, descriptorIndex := 6, attributes := #[] }, { accessFlags := 9, nameIndex := 21, descriptorIndex := 22, attributes := #[] }] 49 2 #[] #[])
  fields := #[]
  methods := #[k1m0, k1m1]
  instanceTypes := #[]
  staticTypes := #[]
  resolved := Array.replicate 26 none
  statics := none }

def pool2 : Array CpInfo := pool [(1, .class_ 2), (0, u "java/lang/Runnable"), (0, .class_ 4), (0, u "java/lang/Object")] 6

/-- java/lang/Runnable -/
def k2 : Class := { plain "java/lang/Runnable" (some 0) with
  accessFlags := 1537
  interfaces := #[]
  cf := some (fileOf pool2 1 #[] #[] 1537 3 #[] #[])
  fields := #[]
  methods := #[]
  instanceTypes := #[]
  staticTypes := #[]
  resolved := Array.replicate 11 none
  statics := none }

def pool3 : Array CpInfo := pool [(2, .class_ 4), (1, u "java/util/concurrent/Future"), (44, .class_ 51), (1, u "java/util/concurrent/Future$State"), (11, .class_ 64), (0, u "java/lang/Object")] 35

/-- java/util/concurrent/Future -/
def k3 : Class := { plain "java/util/concurrent/Future" (some 0) with
  accessFlags := 1537
  interfaces := #[]
  cf := some (fileOf pool3 2 #[.nestMembers #[49]] #[] 1537 63 #[] #[])
  fields := #[]
  methods := #[]
  instanceTypes := #[]
  staticTypes := #[]
  resolved := Array.replicate 100 none
  statics := none }

def pool4 : Array CpInfo := pool [(1, .class_ 2), (0, u "java/util/concurrent/RunnableFuture"), (0, .class_ 4), (0, u "java/lang/Object"), (0, .class_ 6), (0, u "java/lang/Runnable"), (0, .class_ 8), (0, u "java/util/concurrent/Future")] 6

/-- java/util/concurrent/RunnableFuture -/
def k4 : Class := { plain "java/util/concurrent/RunnableFuture" (some 0) with
  accessFlags := 1537
  interfaces := #[2, 3]
  cf := some (fileOf pool4 1 #[] #[] 1537 3 #[5, 7] #[])
  fields := #[]
  methods := #[]
  instanceTypes := #[]
  staticTypes := #[]
  resolved := Array.replicate 15 none
  statics := none }

def pool5 : Array CpInfo := pool [(2, .class_ 4), (1, u "java/lang/Object"), (3, u "task"), (7, .class_ 18), (1, u "com/example/tidewheel/tidewheel/TaskFuture"), (0, u "Ljava/lang/Object;"), (32, u "state"), (0, u "I"), (2, u "STATE"), (0, u "Ljava/lang/invoke/VarHandle;"), (14, u "outcome"), (113, .class_ 187), (0, u "java/util/concurrent/RunnableFuture"), (0, u "PENDING"), (2, u "RUNNING"), (1, u "SUCCEEDED"), (1, u "FAILED"), (1, u "CANCELLED"), (1, u "WAITED")] 51

/-- com/example/tidewheel/tidewheel/TaskFuture -/
def k5 : Class := { plain "com/example/tidewheel/tidewheel/TaskFuture" (some 0) with
  accessFlags := 32
  interfaces := #[4]
  cf := some (fileOf pool5 16 #[] #[] 32 2 #[186] #[{ accessFlags := 26, nameIndex := 56, descriptorIndex := 57, attributes := #[] }, { accessFlags := 26, nameIndex := 188, descriptorIndex := 53, attributes := #[] }, { accessFlags := 26, nameIndex := 191, descriptorIndex := 53, attributes := #[] }, { accessFlags := 26, nameIndex := 193, descriptorIndex := 53, attributes := #[] }, { accessFlags := 26, nameIndex := 195, descriptorIndex := 53, attributes := #[] }, { accessFlags := 26, nameIndex := 197, descriptorIndex := 53, attributes := #[] }, { accessFlags := 26, nameIndex := 199, descriptorIndex := 53, attributes := #[] }, { accessFlags := 66, nameIndex := 52, descriptorIndex := 53, attributes := #[] }, { accessFlags := 2, nameIndex := 8, descriptorIndex := 19, attributes := #[] }, { accessFlags := 2, nameIndex := 72, descriptorIndex := 19, attributes := #[] }])
  fields := #[{ name := "STATE", type := (.object "java/lang/invoke/VarHandle"), accessFlags := 26, slot := 0, constantValue := 0 }, { name := "PENDING", type := .int, accessFlags := 26, slot := 1, constantValue := 0 }, { name := "RUNNING", type := .int, accessFlags := 26, slot := 2, constantValue := 0 }, { name := "SUCCEEDED", type := .int, accessFlags := 26, slot := 3, constantValue := 0 }, { name := "FAILED", type := .int, accessFlags := 26, slot := 4, constantValue := 0 }, { name := "CANCELLED", type := .int, accessFlags := 26, slot := 5, constantValue := 0 }, { name := "WAITED", type := .int, accessFlags := 26, slot := 6, constantValue := 0 }, { name := "state", type := .int, accessFlags := 66, slot := 0, constantValue := 0 }, { name := "task", type := (.object "java/lang/Object"), accessFlags := 2, slot := 1, constantValue := 0 }, { name := "outcome", type := (.object "java/lang/Object"), accessFlags := 2, slot := 2, constantValue := 0 }]
  methods := #[]
  instanceTypes := #[.int, (.object "java/lang/Object"), (.object "java/lang/Object")]
  staticTypes := #[(.object "java/lang/invoke/VarHandle"), .int, .int, .int, .int, .int, .int]
  resolved := Array.replicate 251 none
  statics := none }

def pool6 : Array CpInfo := pool [(1, .class_ 2), (0, u "java/lang/Comparable"), (0, .class_ 4), (0, u "java/lang/Object")] 7

/-- java/lang/Comparable -/
def k6 : Class := { plain "java/lang/Comparable" (some 0) with
  accessFlags := 1537
  interfaces := #[]
  cf := some (fileOf pool6 1 #[] #[] 1537 3 #[] #[])
  fields := #[]
  methods := #[]
  instanceTypes := #[]
  staticTypes := #[]
  resolved := Array.replicate 12 none
  statics := none }

def pool7 : Array CpInfo := pool [(1, .class_ 2), (0, u "java/util/concurrent/Delayed"), (0, .class_ 4), (0, u "java/lang/Object"), (0, .class_ 6), (0, u "java/lang/Comparable")] 6

/-- java/util/concurrent/Delayed -/
def k7 : Class := { plain "java/util/concurrent/Delayed" (some 0) with
  accessFlags := 1537
  interfaces := #[6]
  cf := some (fileOf pool7 1 #[] #[] 1537 3 #[5] #[])
  fields := #[]
  methods := #[]
  instanceTypes := #[]
  staticTypes := #[]
  resolved := Array.replicate 13 none
  statics := none }

def pool8 : Array CpInfo := pool [(1, .class_ 2), (0, u "java/util/concurrent/ScheduledFuture"), (0, .class_ 4), (0, u "java/lang/Object"), (0, .class_ 6), (0, u "java/util/concurrent/Delayed"), (0, .class_ 8), (0, u "java/util/concurrent/Future")] 4

/-- java/util/concurrent/ScheduledFuture -/
def k8 : Class := { plain "java/util/concurrent/ScheduledFuture" (some 0) with
  accessFlags := 1537
  interfaces := #[7, 3]
  cf := some (fileOf pool8 1 #[] #[] 1537 3 #[5, 7] #[])
  fields := #[]
  methods := #[]
  instanceTypes := #[]
  staticTypes := #[]
  resolved := Array.replicate 13 none
  statics := none }

def pool9 : Array CpInfo := pool [(2, .class_ 4), (1, u "com/example/tidewheel/tidewheel/TaskFuture"), (9, .class_ 16), (1, u "com/example/tidewheel/tidewheel/ScheduledTask"), (0, u "holder"), (0, u "Lcom/example/tidewheel/tidewheel/TaskHolder;"), (27, u "later"), (0, u "(JJ)J"), (2, .long 9223372036854775807), (3, u "deadline"), (0, u "J"), (10, u "place"), (0, u "I"), (16, u "sequence"), (17, u "DEADLINE"), (0, u "Ljava/lang/invoke/VarHandle;"), (13, u "ORIGIN"), (28, .class_ 147), (0, u "java/util/concurrent/ScheduledFuture")] 22

def k9c0 : Code := { maxStack := 6, maxLocals := 4, code := prog_5_method_4_code, exceptionTable := #[], attributes := #[] }
def k9m0 : Method := { name := "later", desc := "(JJ)J", sig := { parameters := [.long, .long], returnType := some .long }, accessFlags := 8, code := some k9c0 }
/-- com/example/tidewheel/tidewheel/ScheduledTask -/
def k9 : Class := { plain "com/example/tidewheel/tidewheel/ScheduledTask" (some 5) with
  accessFlags := 32
  interfaces := #[8]
  cf := some (fileOf pool9 14 #[] #[{ accessFlags := 8, nameIndex := 46, descriptorIndex := 47, attributes := #[] }] 32 2 #[146] #[{ accessFlags := 26, nameIndex := 117, descriptorIndex := 55, attributes := #[] }, { accessFlags := 26, nameIndex := 102, descriptorIndex := 103, attributes := #[] }, { accessFlags := 66, nameIndex := 54, descriptorIndex := 55, attributes := #[] }, { accessFlags := 0, nameIndex := 84, descriptorIndex := 55, attributes := #[] }, { accessFlags := 2, nameIndex := 17, descriptorIndex := 18, attributes := #[] }, { accessFlags := 0, nameIndex := 66, descriptorIndex := 67, attributes := #[] }])
  fields := #[{ name := "ORIGIN", type := .long, accessFlags := 26, slot := 0, constantValue := 0 }, { name := "DEADLINE", type := (.object "java/lang/invoke/VarHandle"), accessFlags := 26, slot := 1, constantValue := 0 }, { name := "deadline", type := .long, accessFlags := 66, slot := 3, constantValue := 0 }, { name := "sequence", type := .long, accessFlags := 0, slot := 4, constantValue := 0 }, { name := "holder", type := (.object "com/example/tidewheel/tidewheel/TaskHolder"), accessFlags := 2, slot := 5, constantValue := 0 }, { name := "place", type := .int, accessFlags := 0, slot := 6, constantValue := 0 }]
  methods := #[k9m0]
  instanceTypes := #[.int, (.object "java/lang/Object"), (.object "java/lang/Object"), .long, .long, (.object "com/example/tidewheel/tidewheel/TaskHolder"), .int]
  staticTypes := #[.long, (.object "java/lang/invoke/VarHandle")]
  resolved := Array.replicate 170 none
  statics := none }

def pool10 : Array CpInfo := pool [(1, u "java/lang/Cloneable"), (0, .class_ 1), (0, u "java/lang/Object"), (0, .class_ 3)] 3

/-- java/lang/Cloneable -/
def k10 : Class := { plain "java/lang/Cloneable" (some 0) with
  accessFlags := 1537
  interfaces := #[]
  cf := some (fileOf pool10 2 #[] #[] 1537 4 #[] #[])
  fields := #[]
  methods := #[]
  instanceTypes := #[]
  staticTypes := #[]
  resolved := Array.replicate 8 none
  statics := none }

def pool11 : Array CpInfo := pool [(1, u "java/io/Serializable"), (0, .class_ 1), (0, u "java/lang/Object"), (0, .class_ 3)] 3

/-- java/io/Serializable -/
def k11 : Class := { plain "java/io/Serializable" (some 0) with
  accessFlags := 1537
  interfaces := #[]
  cf := some (fileOf pool11 2 #[] #[] 1537 4 #[] #[])
  fields := #[]
  methods := #[]
  instanceTypes := #[]
  staticTypes := #[]
  resolved := Array.replicate 8 none
  statics := none }

/-- the primitive byte -/
def k12 : Class := { plain "byte" none with kind := .primitive 'B', accessFlags := 0x411 }
/-- [B -/
def k13 : Class := { plain "[B" (some 0) with kind := .array 12 .byte, interfaces := #[10, 11], accessFlags := 1041 }

/-- the primitive int -/
def k14 : Class := { plain "int" none with kind := .primitive 'I', accessFlags := 0x411 }
/-- [I -/
def k15 : Class := { plain "[I" (some 0) with kind := .array 14 .int, interfaces := #[10, 11], accessFlags := 1041 }

def heap : Heap := #[]
def classes : Array Class := #[k0, k1, k2, k3, k4, k5, k6, k7, k8, k9, k10, k11, k12, k13, k14, k15]
def interned : List (Array UInt16 × Addr) := []
def slotsUsed : Nat := 0
def theMethod : MethodId := ⟨1, 1⟩
def args0 : Array Value := #[.long 5, .long 7]
def aboutOver (below : List Frame) : State where
  vm := { classes := classes, interned := interned.toArray }
  heap := heap
  slotsUsed := slotsUsed
  threads := #[{ frames := .invoking theMethod args0 :: below }]
def below0 : List Frame := [.native { method := ⟨0, 0⟩, args := #[] }]
def about1 : State := aboutOver below0
def p0 : Program := .bare "" "" ""
def e0 : Env := launch0.env 0 0 0
theorem w_frames : about1.frames = Frame.invoking theMethod args0 :: below0 := rfl
set_option maxRecDepth 65536 in
theorem w_args : argsFit about1.vm theMethod args0 = true := by decide +kernel
set_option maxRecDepth 65536 in
theorem w_heap : heapFits about1 = true := by decide +kernel
set_option maxRecDepth 65536 in
theorem w_runnable : about1.curStatus? = some .runnable := by decide +kernel
set_option maxRecDepth 65536 in
theorem w_alone : about1.alone = true := by decide +kernel
set_option maxRecDepth 65536 in
theorem w_named : about1.methodNamed? x = some theMethod := by decide +kernel
set_option maxRecDepth 65536 in
theorem w_hears : about1.hears theMethod below0 = true := by decide +kernel
set_option maxRecDepth 65536 in
theorem w_ripe : about1.ripe theMethod args0 below0 = true := by decide +kernel
theorem w_running : about1.status = .running := rfl
set_option maxRecDepth 65536 in
theorem w_room : about1.hasRoom e0.platform room_1 = true :=
  launch0.hasRoom_least _ room_1 (by decide +kernel) (by decide +kernel) (by decide +kernel) (by decide +kernel) (by decide +kernel) (by decide +kernel)
theorem allAtoms_all (ts : List Jvm.Cond) (a : Array Jvm.Value) (st : Jvm.State) : (allAtoms ts).before a st = ts.all (fun c => c.before a st) := by
  induction ts with
  | nil => rfl
  | cons c t ih =>
    show (Jvm.Cond.and c (allAtoms t)).before a st = _
    rw [Jvm.Cond.before_and, ih, List.all_cons]
def words1 : List Jvm.Cond := Jvm.Cond.code x code maxLocals ret :: tables_1
/-- a 'code' word, met by the world's own term for the bytes: nothing is compared byte by byte -/
theorem code_word {y : MethodName} {bytes : ByteArray} {mx : Nat} {rt : Option FieldType} {a : Array Value} {s : State} {m : MethodId} {meth : Method} {c : Code} (h1 : s.methodNamed? y = some m) (h2 : s.vm.method? m = some meth) (h3 : meth.code = some c) (h4 : c.code = bytes)
    (h5 : (c.maxLocals == mx && c.exceptionTable.isEmpty && decide (c.maxStack ≤ mostOperands) && decide (meth.sig.returnType = rt) && !meth.locks && decide (parseMethodDescriptor y.desc = some meth.sig)) = true) : (Jvm.Cond.code y bytes mx rt).before a s = true := by
  simp only [Bool.and_eq_true, beq_iff_eq, Bool.not_eq_true', decide_eq_true_eq] at h5
  obtain ⟨⟨⟨⟨⟨g1, g2⟩, g3⟩, g4⟩, g5⟩, g6⟩ := h5
  simp [Cond.before, Cond.holds, Cond.value, h1, h2, h3, h4, g1, g2, g3, g4, g5, g6]
def isCode : Jvm.Cond → Bool
  | .code _ _ _ _ => true
  | _ => false
theorem all_split {L : List Jvm.Cond} {P : Jvm.Cond → Bool} (h1 : L.all (fun c => isCode c || P c) = true) (h2 : ∀ c ∈ L.filter isCode, P c = true) : L.all P = true := by
  refine List.all_eq_true.mpr fun c hc => ?_
  have h := List.all_eq_true.mp h1 c hc
  rcases Bool.eq_false_or_eq_true (isCode c) with hi | hi
  · exact h2 c (List.mem_filter.mpr ⟨hc, hi⟩)
  · simpa [hi] using h
set_option maxRecDepth 65536 in
theorem w_c0 : (Jvm.Cond.code x code maxLocals ret).before args0 about1 = true := code_word (m := ⟨1, 1⟩) (meth := k1m1) (c := k1c1) (by decide +kernel) rfl rfl rfl (by decide +kernel)
set_option maxRecDepth 65536 in
theorem w_c1 : (Jvm.Cond.code ({ cls := "com/example/tidewheel/tidewheel/ScheduledTask", name := "later", desc := "(JJ)J" } : Jvm.MethodName) prog_5_method_4_code (4 : Nat) (Option.some Jvm.ClassFile.FieldType.long)).before args0 about1 = true := code_word (m := ⟨9, 0⟩) (meth := k9m0) (c := k9c0) (by decide +kernel) rfl rfl rfl (by decide +kernel)
def codes1 : List Jvm.Cond := [Jvm.Cond.code x code maxLocals ret, Jvm.Cond.code ({ cls := "com/example/tidewheel/tidewheel/ScheduledTask", name := "later", desc := "(JJ)J" } : Jvm.MethodName) prog_5_method_4_code (4 : Nat) (Option.some Jvm.ClassFile.FieldType.long)]
set_option maxRecDepth 65536 in
theorem codes_eq : words1.filter isCode = codes1 := rfl
theorem w_codes : ∀ c ∈ words1.filter isCode, c.before args0 about1 = true := by
  rw [codes_eq]
  intro c hc
  simp only [codes1, List.mem_cons, List.not_mem_nil, or_false] at hc
  rcases hc with rfl | rfl
  · exact w_c0
  · exact w_c1
set_option maxRecDepth 65536 in
theorem w_t1 : words1.all (fun c => isCode c || c.before args0 about1) = true := by decide +kernel
theorem w_tables : (allAtoms (Jvm.Cond.code x code maxLocals ret :: tables_1)).before args0 about1 = true := by
  rw [allAtoms_all]
  show words1.all (fun c => c.before args0 about1) = true
  refine all_split ?_ w_codes
  rw [w_t1]
set_option maxRecDepth 65536 in
theorem w_case : (Jvm.Cond.and given_1 narrow_1).before args0 about1 = true := by decide +kernel
theorem w_applies : (headSpec (Jvm.Cond.code x code maxLocals ret :: tables_1) room_1).applies x e0.platform about1 = true :=
  (Spec.applies_iff w_frames).mpr ⟨w_running, w_runnable, w_alone, w_named, w_hears, w_ripe, w_room, w_tables⟩
theorem atStart : AtStart classFile x code maxLocals ret World_1 tables_1 room_1 Calls_1 rest_1 Pre_1 launch0 p0 e0 about1 theMethod args0 below0 :=
  ⟨lists_1, trivial, launch0.admits_env _ _ _, launch0.least_env, fairChoices_fair.cas, fairChoices_fair.clock, w_frames, w_args, w_heap, w_applies, trivial, trivial, w_case⟩
end start1
theorem witness_1 : WitnessClaimed_1 := ⟨start1.p0, start1.e0, start1.about1, start1.theMethod, start1.args0, start1.below0, start1.atStart⟩
end Jvm.Pilot.@@N@@
