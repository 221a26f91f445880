import JvmDerived
import JvmDerived.Pilot.@@N@@Statement
import JvmDerived.Pilot.@@N@@Code
set_option linter.unusedVariables false
set_option linter.unusedSimpArgs false
namespace Jvm.RoadKit
open Sem ClassFile Op Lib Jvm.Stand Jvm.Free Jvm.LawKit
section New
variable {p : Program} {l : Launch} {e : Env} {R : Room} {s : State} {m : MethodId} {args : Array Value} {below : List Frame} {meth : Method} {c : Code} {T : State} {locs : List Loc} {cells slots : Nat}
theorem retI (X : Stand p l e R s m args below meth c T locs cells slots) (hx : p.tables.exec = Jvm.exec) {pc : Nat} {Ls : Array Slot} {z : Int32} {rest : List Value} (hret : meth.sig.returnType = some .int) (hd : decode c.code pc = .ok (.ireturn, 1)) {fs : List Frame}
    (hl : ∀ (f : JFrame) (acts : List Action), f.method = m → f.locked = none → f.entered = [] → (doReturn e (T.setTop f) acts (some (.int z))).1 = T.setFrames fs) : Steps p.tables e below (T.setTop (mkF m pc Ls (.int z :: rest))) (T.setFrames fs) := by
  have hm' : T.vm.method? m = some meth := X.method'
  have hn : narrow .int (.int z) = .int z := rfl
  show Steps p.tables e below (T.setTop { method := m, pc := pc, locals := Ls, stack := _ :: rest, locked := none }) _
  jvm_step X.here [X.here.top, hx, hd, hm', hret, hn]
  first | (intro acts; rw [hl _ acts rfl rfl rfl]) | rw [hl _ _ rfl rfl rfl]
  exact Steps.refl _
end New
end Jvm.RoadKit
namespace Jvm.Pilot.@@N@@
open Jvm Jvm.ClassFile Sem Op Lib Jvm.Free Jvm.Stand Jvm.LawKit Jvm.RoadKit Bundle Jvm.Pilot.@@N@@.Jvm.D
/-! the plain law -/
theorem own_emp (lo hi x l2 h2 : Int64) (rC rE : Int32) (hc : ((rC = 1 ∧ ¬ x < lo ∧ ¬ hi < x) ∨ (rC = 0 ∧ (x < lo ∨ hi < x)))) (h1 : ((l2 = x ∧ lo < x) ∨ (l2 = lo ∧ ¬ lo < x))) (h3 : ((h2 = x ∧ x < hi) ∨ (h2 = hi ∧ ¬ x < hi))) (he : ((rE = 1 ∧ h2 < l2) ∨ (rE = 0 ∧ ¬ h2 < l2))) : (rE = 0 → rC = 1) ∧ (¬ rE = 0 → rC = 0) := by
  simp only [Int64.lt_iff_toInt_lt] at *
  have e10 : ¬ (1 : Int32) = 0 := by decide
  rcases hc with ⟨rfl, hc⟩ | ⟨rfl, hc⟩ <;> rcases he with ⟨rfl, he⟩ | ⟨rfl, he⟩
  · exfalso; rcases h1 with ⟨rfl, h1⟩ | ⟨rfl, h1⟩ <;> rcases h3 with ⟨rfl, h3⟩ | ⟨rfl, h3⟩ <;> omega
  · exact ⟨fun _ => rfl, fun z => absurd rfl z⟩
  · exact ⟨fun z => absurd z e10, fun _ => rfl⟩
  · exfalso; rcases h1 with ⟨rfl, h1⟩ | ⟨rfl, h1⟩ <;> rcases h3 with ⟨rfl, h3⟩ | ⟨rfl, h3⟩ <;> omega
def Qr (Z : State) (a1 : Addr) (h0 : Heap) (n0 : Nat) (v : Option Value) (h : Heap) (L : List Loc) : Prop := v = none ∧ Fr n0 L ∧ h = h0
theorem d2_0 : decode jdk_30_method_1_code 0 = .ok (.aload_n 0, 1) := by decide +kernel
theorem d2_1 : decode jdk_30_method_1_code 1 = .ok (.invokespecial 1, 3) := by decide +kernel
theorem d2_4 : decode jdk_30_method_1_code 4 = .ok (.return_, 1) := by decide +kernel
theorem ef_2 (m : MethodId) (a1 : Addr) : entryFrame m #[(.ref a1)] 1 = mkF m 0 #[.val (.ref a1)] [] := by first | (simp [entryFrame, mkF, argsToLocals, Value.category]; done) | rfl
theorem pn_0 : plainName "java/lang/Record" = true := by first | (simp [plainName, overriddenIn]; done) | decide +kernel
set_option maxRecDepth 65536 in
set_option maxHeartbeats 40000000 in
theorem rmR (l : Launch) (Z : State) (a0 : Array Value) (hw : ∀ d ∈ tables_1, d.before a0 Z = true) (ws : List Jvm.Cond) (a1 : Addr)  (h0 : Heap) (n0 : Nat) (Z0 : n0 ≤ h0.size)  :
    MetFree l (⟨"java/lang/Record", "<init>", "()V"⟩ : MethodName) (head1 (Jvm.Cond.code (⟨"java/lang/Record", "<init>", "()V"⟩ : MethodName) jdk_30_method_1_code 1 none :: ws) ({ frames := 1, cells := 0, slots := 0, locals := 12 } : Room)) (fun a U => a = #[(.ref a1)] ∧ Z.Warmed39 U.vm ∧ U.heap = h0) (fun _ _ _ _ _ => True) (fun _ U o U' => ∃ v L, o = .returned v ∧ Qr Z a1 h0 n0 v U'.heap L ∧ FrameEnd U o U' L ({ frames := 1, cells := 0, slots := 0, locals := 12 } : Room).cells ({ frames := 1, cells := 0, slots := 0, locals := 12 } : Room).slots) := by
  refine MetFree.of_bodySF (plainFor_of_name pn_0) hisR ?_
  intro p e s m args below meth c s₁ Bd hml0 hP hK
  obtain ⟨rfl, hZ, hh⟩ := hP
  have hx := Bd.exec
  have hby := Bd.bytes
  have hml : c.maxLocals = 1 := hml0
  have hown : s.vm.findClass "java/lang/Record" = some m.cls := findClass_of_methodNamed Bd.named
  have hnm := (name_of_methodNamed Bd.named Bd.method).1
  have X0 : Stand p l e ({ frames := 1, cells := 0, slots := 0, locals := 12 } : Room) s m #[(.ref a1)] below meth c s₁ [] 0 0 := Stand.of_body Bd
  have e0 : s₁.heap = h0 := by rw [← hh, Bd.state]; rfl
  have N0 := Fr.nil n0
  have pre0 : ∀ t, Steps p.tables e below (s₁.setTop (mkF m 0 #[.val (.ref a1)] [])) t → Steps p.tables e below (s₁.setTop (entryFrame m #[(.ref a1)] 1)) t := fun t k => castTop (ef_2 m a1) k
  obtain ⟨T1, X1, e1, st1⟩ := initO X0 hx hZ hown (hw _ (List.mem_of_getElem? (i := 11) rfl)) (hw _ (List.mem_of_getElem? (i := 12) rfl)) (hw _ (List.mem_of_getElem? (i := 13) rfl)) e0 (g := (mkF m 1 #[.val (.ref a1)] [(.ref a1)])) rfl (by rw [hml]; rfl) rfl (hb hby d2_1) (by decide) (W := 0) (by show 2 * 0 + _ ≤ _; exact Nat.le_of_eq rfl) (by decide)
  obtain ⟨fs, hr, hrun, hended, hW, hsame⟩ := X1.leave (v := none) (fun _ => rfl)
  refine ⟨_, _, pre0 _ ?_, hrun, hended, _, _, rfl, ?_, ⟨_, rfl⟩, hW, hsame.mono (by decide) (by decide)⟩
  · show Steps p.tables e below (s₁.setTop (mkF m 0 #[.val (.ref a1)] [])) _
    refine XS.aloadN X0.here hx rfl (hb hby d2_0) rfl rfl ?_
    show Steps p.tables e below (s₁.setTop (mkF m 1 #[.val (.ref a1)] [(.ref a1)])) _
    refine st1 _ ?_
    show Steps p.tables e below (T1.setTop (mkF m 4 #[.val (.ref a1)] [])) _
    exact X1.returnOut hx Bd.returns (hb hby d2_4) hr
  · show Qr Z a1 h0 n0 _ T1.heap _
    rw [e1]
    exact ⟨rfl, N0, rfl⟩
def Qi (Z : State) (a1 : Addr) (q2 q3 : Int64) (h0 : Heap) (n0 : Nat) (v : Option Value) (h : Heap) (L : List Loc) : Prop := v = none ∧ Fr n0 L ∧ Keep h0 h [a1] ∧ Exa Z h a1 "com/example/winnowpack/winnowpack/codec/Interval" ∧ Fld Z h a1 "com/example/winnowpack/winnowpack/codec/Interval" "low" "J" (.long q2) ∧ Fld Z h a1 "com/example/winnowpack/winnowpack/codec/Interval" "high" "J" (.long q3)
theorem d1_0 : decode prog_52_method_1_code 0 = .ok (.aload_n 0, 1) := by decide +kernel
theorem d1_1 : decode prog_52_method_1_code 1 = .ok (.invokespecial 1, 3) := by decide +kernel
theorem pd_0 : parseMethodDescriptor "()V" = some ⟨[], none⟩ := by decide +kernel
theorem d1_4 : decode prog_52_method_1_code 4 = .ok (.aload_n 0, 1) := by decide +kernel
theorem d1_5 : decode prog_52_method_1_code 5 = .ok (.lload_n 1, 1) := by decide +kernel
theorem d1_6 : decode prog_52_method_1_code 6 = .ok (.putfield 7, 3) := by decide +kernel
theorem d1_9 : decode prog_52_method_1_code 9 = .ok (.aload_n 0, 1) := by decide +kernel
theorem d1_10 : decode prog_52_method_1_code 10 = .ok (.lload_n 3, 1) := by decide +kernel
theorem d1_11 : decode prog_52_method_1_code 11 = .ok (.putfield 13, 3) := by decide +kernel
theorem d1_14 : decode prog_52_method_1_code 14 = .ok (.return_, 1) := by decide +kernel
theorem ef_1 (m : MethodId) (a1 : Addr) (q2 : Int64) (q3 : Int64) : entryFrame m #[(.ref a1), (.long q2), (.long q3)] 5 = mkF m 0 #[.val (.ref a1), .val (.long q2), .second, .val (.long q3), .second] [] := by first | (simp [entryFrame, mkF, argsToLocals, Value.category]; done) | rfl
theorem pn_1 : plainName "com/example/winnowpack/winnowpack/codec/Interval" = true := by first | (simp [plainName, overriddenIn]; done) | decide +kernel
set_option maxRecDepth 65536 in
set_option maxHeartbeats 40000000 in
theorem rmI (l : Launch) (Z : State) (a0 : Array Value) (hw : ∀ d ∈ tables_1, d.before a0 Z = true) (ws : List Jvm.Cond) (a1 : Addr) (q2 : Int64) (q3 : Int64) (u1 u2 : Value) (h0 : Heap) (n0 : Nat) (Z0 : n0 ≤ h0.size) (E : Exa Z h0 a1 "com/example/winnowpack/winnowpack/codec/Interval") (F1 : Fld Z h0 a1 "com/example/winnowpack/winnowpack/codec/Interval" "low" "J" u1) (F2 : Fld Z h0 a1 "com/example/winnowpack/winnowpack/codec/Interval" "high" "J" u2) (g1 : n0 ≤ a1) :
    MetFree l (⟨"com/example/winnowpack/winnowpack/codec/Interval", "<init>", "(JJ)V"⟩ : MethodName) (head1 (Jvm.Cond.code (⟨"com/example/winnowpack/winnowpack/codec/Interval", "<init>", "(JJ)V"⟩ : MethodName) prog_52_method_1_code 5 none :: ws) ({ frames := 2, cells := 0, slots := 0, locals := 24 } : Room)) (fun a U => a = #[(.ref a1), (.long q2), (.long q3)] ∧ Z.Warmed39 U.vm ∧ U.heap = h0) (fun _ _ _ _ _ => True) (fun _ U o U' => ∃ v L, o = .returned v ∧ Qi Z a1 q2 q3 h0 n0 v U'.heap L ∧ FrameEnd U o U' L ({ frames := 2, cells := 0, slots := 0, locals := 24 } : Room).cells ({ frames := 2, cells := 0, slots := 0, locals := 24 } : Room).slots) := by
  refine MetFree.of_bodySF (plainFor_of_name pn_1) hisR ?_
  intro p e s m args below meth c s₁ Bd hml0 hP hK
  obtain ⟨rfl, hZ, hh⟩ := hP
  have hx := Bd.exec
  have hby := Bd.bytes
  have hml : c.maxLocals = 5 := hml0
  have hown : s.vm.findClass "com/example/winnowpack/winnowpack/codec/Interval" = some m.cls := findClass_of_methodNamed Bd.named
  have hnm := (name_of_methodNamed Bd.named Bd.method).1
  have X0 : Stand p l e ({ frames := 2, cells := 0, slots := 0, locals := 24 } : Room) s m #[(.ref a1), (.long q2), (.long q3)] below meth c s₁ [] 0 0 := Stand.of_body Bd
  have e0 : s₁.heap = h0 := by rw [← hh, Bd.state]; rfl
  have N0 := Fr.nil n0
  have pre0 : ∀ t, Steps p.tables e below (s₁.setTop (mkF m 0 #[.val (.ref a1), .val (.long q2), .second, .val (.long q3), .second] [])) t → Steps p.tables e below (s₁.setTop (entryFrame m #[(.ref a1), (.long q2), (.long q3)] 5)) t := fun t k => castTop (ef_1 m a1 q2 q3) k
  obtain ⟨_, _, ⟨T1, L1, k1, n1⟩, -, X1, ⟨Lc1, hQ1, l1, y1, z1⟩, st1⟩ := X0.specialBack hx (y := (⟨"java/lang/Record", "<init>", "()V"⟩ : MethodName)) rfl hown (mvT hZ (hw _ (List.mem_of_getElem? (i := 6) rfl))) (mvT hZ (hw _ (List.mem_of_getElem? (i := 7) rfl))) (mvT hZ (hw _ (List.mem_of_getElem? (i := 10) rfl))) (by decide) (backOf (W := 0) (rmR l Z a0 hw [] a1 h0 n0 Z0) hZ (hw _ (List.mem_of_getElem? (i := 10) rfl)) (hw _ (List.mem_of_getElem? (i := 9) rfl)) (by decide) (by decide)) (g := (mkF m 1 #[.val (.ref a1), .val (.long q2), .second, .val (.long q3), .second] [(.ref a1)])) rfl (by rw [hml]; rfl) (Steps.refl _) (a := a1) (argsL := []) (rest := []) (lenOf pd_0 rfl) rfl (by show 2 * 0 + _ ≤ _; exact Nat.le_of_eq rfl) (hb hby d1_1) (fun _ _ => ⟨rfl, e0, (by decide : 0 + 0 ≤ _), (by decide : 0 + 0 ≤ _)⟩)
  dsimp only [Pt.U, Pt.locs, Pt.cells, Pt.slots] at X1 l1 y1 z1 st1 hQ1
  subst l1 y1 z1
  obtain ⟨rfl, N1q, e1⟩ := hQ1
  have N1 := Fr.app N0 N1q
  obtain ⟨T2, h2, X2, e2, W2, st2⟩ := putF X1 hx hZ hown (host := "") (Or.inl (hw _ (List.mem_of_getElem? (i := 14) rfl))) Via.refl e1 F1 E (Or.inr ⟨(hw _ (List.mem_of_getElem? (i := 15) rfl)), rfl, hnm⟩) (hw _ (List.mem_of_getElem? (i := 1) rfl)) (ty := .long) (by decide) rfl rfl (g := (mkF m 6 #[.val (.ref a1), .val (.long q2), .second, .val (.long q3), .second] [(.long q2), (.ref a1)])) rfl rfl (hb hby d1_6)
  have N2 := Fr.snoc X2 N1 g1
  have F2a := F2.other W2 (Or.inr (slot_ne (Or.inr (hw _ (List.mem_of_getElem? (i := 17) rfl))) (Or.inr (hw _ (List.mem_of_getElem? (i := 15) rfl))) (by decide) (t := .long) (t' := .long) (by decide) (by decide)))
  obtain ⟨T3, h3, X3, e3, W3, st3⟩ := putF X2 hx hZ hown (host := "") (Or.inl (hw _ (List.mem_of_getElem? (i := 16) rfl))) Via.refl e2 F2a (E.wr W2) (Or.inr ⟨(hw _ (List.mem_of_getElem? (i := 17) rfl)), rfl, hnm⟩) (hw _ (List.mem_of_getElem? (i := 1) rfl)) (ty := .long) (by decide) rfl rfl (g := (mkF m 11 #[.val (.ref a1), .val (.long q2), .second, .val (.long q3), .second] [(.long q3), (.ref a1)])) rfl rfl (hb hby d1_11)
  have N3 := Fr.snoc X3 N2 g1
  obtain ⟨fs, hr, hrun, hended, hW, hsame⟩ := X3.leave (v := none) (fun _ => rfl)
  refine ⟨_, _, pre0 _ ?_, hrun, hended, _, _, rfl, ?_, ⟨_, rfl⟩, hW, hsame.mono (by decide) (by decide)⟩
  · show Steps p.tables e below (s₁.setTop (mkF m 0 #[.val (.ref a1), .val (.long q2), .second, .val (.long q3), .second] [])) _
    refine XS.aloadN X0.here hx rfl (hb hby d1_0) rfl rfl ?_
    show Steps p.tables e below (s₁.setTop (mkF m 1 #[.val (.ref a1), .val (.long q2), .second, .val (.long q3), .second] [(.ref a1)])) _
    refine st1.trans ?_
    show Steps p.tables e below (T1.setTop (mkF m 4 #[.val (.ref a1), .val (.long q2), .second, .val (.long q3), .second] [])) _
    refine XS.aloadN X1.here hx rfl (hb hby d1_4) rfl rfl ?_
    show Steps p.tables e below (T1.setTop (mkF m 5 #[.val (.ref a1), .val (.long q2), .second, .val (.long q3), .second] [(.ref a1)])) _
    refine XS.lloadN X1.here hx rfl (hb hby d1_5) rfl ?_
    show Steps p.tables e below (T1.setTop (mkF m 6 #[.val (.ref a1), .val (.long q2), .second, .val (.long q3), .second] [(.long q2), (.ref a1)])) _
    refine st2 _ ?_
    show Steps p.tables e below (T2.setTop (mkF m 9 #[.val (.ref a1), .val (.long q2), .second, .val (.long q3), .second] [])) _
    refine XS.aloadN X2.here hx rfl (hb hby d1_9) rfl rfl ?_
    show Steps p.tables e below (T2.setTop (mkF m 10 #[.val (.ref a1), .val (.long q2), .second, .val (.long q3), .second] [(.ref a1)])) _
    refine XS.lloadN X2.here hx rfl (hb hby d1_10) rfl ?_
    show Steps p.tables e below (T2.setTop (mkF m 11 #[.val (.ref a1), .val (.long q2), .second, .val (.long q3), .second] [(.long q3), (.ref a1)])) _
    refine st3 _ ?_
    show Steps p.tables e below (T3.setTop (mkF m 14 #[.val (.ref a1), .val (.long q2), .second, .val (.long q3), .second] [])) _
    exact X3.returnOut hx Bd.returns (hb hby d1_14) hr
  · show Qi Z a1 q2 q3 h0 n0 _ T3.heap _
    rw [e3]
    exact ⟨rfl, N3, ((Keep.refl h0 [a1]).wr W2 (Or.inl (List.mem_of_getElem? (i := 0) rfl))).wr W3 (Or.inl (List.mem_of_getElem? (i := 0) rfl)), (E.wr W2).wr W3, (F1.same W2).other W3 (Or.inr (slot_ne (Or.inr (hw _ (List.mem_of_getElem? (i := 15) rfl))) (Or.inr (hw _ (List.mem_of_getElem? (i := 17) rfl))) (by decide) (t := .long) (t' := .long) (by decide) (by decide))), F2a.same W3⟩
def Qc (Z : State) (a1 : Addr) (q2 lo hi : Int64) (h0 : Heap) (n0 : Nat) (v : Option Value) (h : Heap) (L : List Loc) : Prop := (∃ r : Int32, v = some (.int r) ∧ ((r = 1 ∧ ¬ q2 < lo ∧ ¬ hi < q2) ∨ (r = 0 ∧ (q2 < lo ∨ hi < q2)))) ∧ Fr n0 L ∧ h = h0
theorem d4_0 : decode prog_52_method_9_code 0 = .ok (.aload_n 0, 1) := by decide +kernel
theorem d4_1 : decode prog_52_method_9_code 1 = .ok (.getfield 7, 3) := by decide +kernel
theorem d4_4 : decode prog_52_method_9_code 4 = .ok (.lload_n 1, 1) := by decide +kernel
theorem d4_5 : decode prog_52_method_9_code 5 = .ok (.lcmp, 1) := by decide +kernel
theorem d4_6 : decode prog_52_method_9_code 6 = .ok (.ifCond .gt 16, 3) := by decide +kernel
theorem d4_22 : decode prog_52_method_9_code 22 = .ok (.iconst 0, 1) := by decide +kernel
theorem d4_23 : decode prog_52_method_9_code 23 = .ok (.ireturn, 1) := by decide +kernel
theorem d4_9 : decode prog_52_method_9_code 9 = .ok (.lload_n 1, 1) := by decide +kernel
theorem d4_10 : decode prog_52_method_9_code 10 = .ok (.aload_n 0, 1) := by decide +kernel
theorem d4_11 : decode prog_52_method_9_code 11 = .ok (.getfield 13, 3) := by decide +kernel
theorem d4_14 : decode prog_52_method_9_code 14 = .ok (.lcmp, 1) := by decide +kernel
theorem d4_15 : decode prog_52_method_9_code 15 = .ok (.ifCond .gt 7, 3) := by decide +kernel
theorem d4_18 : decode prog_52_method_9_code 18 = .ok (.iconst 1, 1) := by decide +kernel
theorem d4_19 : decode prog_52_method_9_code 19 = .ok (.goto 4, 3) := by decide +kernel
theorem ef_4 (m : MethodId) (a1 : Addr) (q2 : Int64) : entryFrame m #[(.ref a1), (.long q2)] 3 = mkF m 0 #[.val (.ref a1), .val (.long q2), .second] [] := by first | (simp [entryFrame, mkF, argsToLocals, Value.category]; done) | rfl
set_option maxRecDepth 65536 in
set_option maxHeartbeats 40000000 in
theorem rmC (l : Launch) (Z : State) (a0 : Array Value) (hw : ∀ d ∈ tables_1, d.before a0 Z = true) (ws : List Jvm.Cond) (a1 : Addr) (q2 : Int64) (lo hi : Int64) (h0 : Heap) (n0 : Nat) (Z0 : n0 ≤ h0.size) (F1 : Fld Z h0 a1 "com/example/winnowpack/winnowpack/codec/Interval" "low" "J" (.long lo)) (F2 : Fld Z h0 a1 "com/example/winnowpack/winnowpack/codec/Interval" "high" "J" (.long hi)) :
    MetFree l (⟨"com/example/winnowpack/winnowpack/codec/Interval", "contains", "(J)Z"⟩ : MethodName) (head1 (Jvm.Cond.code (⟨"com/example/winnowpack/winnowpack/codec/Interval", "contains", "(J)Z"⟩ : MethodName) prog_52_method_9_code 3 (some .boolean) :: ws) ({ frames := 0, cells := 0, slots := 0, locals := 0 } : Room)) (fun a U => a = #[(.ref a1), (.long q2)] ∧ Z.Warmed39 U.vm ∧ U.heap = h0) (fun _ _ _ _ _ => True) (fun _ U o U' => ∃ v L, o = .returned v ∧ Qc Z a1 q2 lo hi h0 n0 v U'.heap L ∧ FrameEnd U o U' L ({ frames := 0, cells := 0, slots := 0, locals := 0 } : Room).cells ({ frames := 0, cells := 0, slots := 0, locals := 0 } : Room).slots) := by
  refine MetFree.of_bodySF (plainFor_of_name pn_1) hisR ?_
  intro p e s m args below meth c s₁ Bd hml0 hP hK
  obtain ⟨rfl, hZ, hh⟩ := hP
  have hx := Bd.exec
  have hby := Bd.bytes
  have hml : c.maxLocals = 3 := hml0
  have hown : s.vm.findClass "com/example/winnowpack/winnowpack/codec/Interval" = some m.cls := findClass_of_methodNamed Bd.named
  have hnm := (name_of_methodNamed Bd.named Bd.method).1
  have X0 : Stand p l e ({ frames := 0, cells := 0, slots := 0, locals := 0 } : Room) s m #[(.ref a1), (.long q2)] below meth c s₁ [] 0 0 := Stand.of_body Bd
  have e0 : s₁.heap = h0 := by rw [← hh, Bd.state]; rfl
  have N0 := Fr.nil n0
  have pre0 : ∀ t, Steps p.tables e below (s₁.setTop (mkF m 0 #[.val (.ref a1), .val (.long q2), .second] [])) t → Steps p.tables e below (s₁.setTop (entryFrame m #[(.ref a1), (.long q2)] 3)) t := fun t k => castTop (ef_4 m a1 q2) k
  obtain ⟨T1, X1, e1, st1⟩ := getF X0 hx hZ hown (host := "") (Or.inl (hw _ (List.mem_of_getElem? (i := 14) rfl))) Via.refl e0 F1 (g := (mkF m 1 #[.val (.ref a1), .val (.long q2), .second] [(.ref a1)])) rfl rfl (hb hby d4_1)
  have pre2 : ∀ t, Steps p.tables e below (T1.setTop (mkF m 6 #[.val (.ref a1), .val (.long q2), .second] [(.int (lcmpW lo q2))])) t → Steps p.tables e below (s₁.setTop (entryFrame m #[(.ref a1), (.long q2)] 3)) t := by
    intro t k
    refine pre0 t ?_
    show Steps p.tables e below (s₁.setTop (mkF m 0 #[.val (.ref a1), .val (.long q2), .second] [])) _
    refine XS.aloadN X0.here hx rfl (hb hby d4_0) rfl rfl ?_
    show Steps p.tables e below (s₁.setTop (mkF m 1 #[.val (.ref a1), .val (.long q2), .second] [(.ref a1)])) _
    refine st1 _ ?_
    show Steps p.tables e below (T1.setTop (mkF m 4 #[.val (.ref a1), .val (.long q2), .second] [(.long lo)])) _
    refine XS.lloadN X1.here hx rfl (hb hby d4_4) rfl ?_
    show Steps p.tables e below (T1.setTop (mkF m 5 #[.val (.ref a1), .val (.long q2), .second] [(.long q2), (.long lo)])) _
    refine XS.lcmp X1.here hx rfl (hb hby d4_5) rfl ?_
    exact k
  by_cases c6 : q2 < lo
  · obtain ⟨fs, hr, hrun, hended, hW, hsame⟩ := X1.leave (v := some (.int (0 : Int32))) (fun h => by rw [Bd.returns] at h; cases h)
    refine ⟨_, _, pre2 _ ?_, hrun, hended, _, _, rfl, ?_, ⟨_, rfl⟩, hW, hsame.mono (by decide) (by decide)⟩
    · show Steps p.tables e below (T1.setTop (mkF m 6 #[.val (.ref a1), .val (.long q2), .second] [(.int (lcmpW lo q2))])) _
      refine XS.ifYes X1.here hx rfl (pc0 := 6) (pc' := 22) rfl (hb hby d4_6) rfl ((if0 _ _).trans (tlt ((lw_gt _ _).mpr c6)).2.2.1) (by decide) (by decide) ?_
      show Steps p.tables e below (T1.setTop (mkF m 22 #[.val (.ref a1), .val (.long q2), .second] [])) _
      refine XS.iconst X1.here hx rfl (hb hby d4_22) ?_
      show Steps p.tables e below (T1.setTop (mkF m 23 #[.val (.ref a1), .val (.long q2), .second] [(.int (0 : Int32))])) _
      exact retN X1 hx (t := .boolean) Bd.returns (by simp) (hb hby d4_23) hr
    · show Qc Z a1 q2 lo hi h0 n0 _ T1.heap _
      rw [e1]
      exact ⟨⟨_, rfl, Or.inr ⟨rfl, Or.inl c6⟩⟩, N0, rfl⟩
  · obtain ⟨T3, X3, e3, st3⟩ := getF X1 hx hZ hown (host := "") (Or.inl (hw _ (List.mem_of_getElem? (i := 16) rfl))) Via.refl e1 F2 (g := (mkF m 11 #[.val (.ref a1), .val (.long q2), .second] [(.ref a1), (.long q2)])) rfl rfl (hb hby d4_11)
    have pre4 : ∀ t, Steps p.tables e below (T3.setTop (mkF m 15 #[.val (.ref a1), .val (.long q2), .second] [(.int (lcmpW q2 hi))])) t → Steps p.tables e below (s₁.setTop (entryFrame m #[(.ref a1), (.long q2)] 3)) t := by
      intro t k
      refine pre2 t ?_
      show Steps p.tables e below (T1.setTop (mkF m 6 #[.val (.ref a1), .val (.long q2), .second] [(.int (lcmpW lo q2))])) _
      refine XS.ifNo X1.here hx rfl (hb hby d4_6) rfl ((if0 _ _).trans (flt (fun z => c6 ((lw_gt _ _).mp z))).2.2.1) ?_
      show Steps p.tables e below (T1.setTop (mkF m 9 #[.val (.ref a1), .val (.long q2), .second] [])) _
      refine XS.lloadN X1.here hx rfl (hb hby d4_9) rfl ?_
      show Steps p.tables e below (T1.setTop (mkF m 10 #[.val (.ref a1), .val (.long q2), .second] [(.long q2)])) _
      refine XS.aloadN X1.here hx rfl (hb hby d4_10) rfl rfl ?_
      show Steps p.tables e below (T1.setTop (mkF m 11 #[.val (.ref a1), .val (.long q2), .second] [(.ref a1), (.long q2)])) _
      refine st3 _ ?_
      show Steps p.tables e below (T3.setTop (mkF m 14 #[.val (.ref a1), .val (.long q2), .second] [(.long hi), (.long q2)])) _
      refine XS.lcmp X3.here hx rfl (hb hby d4_14) rfl ?_
      exact k
    by_cases c15 : hi < q2
    · obtain ⟨fs, hr, hrun, hended, hW, hsame⟩ := X3.leave (v := some (.int (0 : Int32))) (fun h => by rw [Bd.returns] at h; cases h)
      refine ⟨_, _, pre4 _ ?_, hrun, hended, _, _, rfl, ?_, ⟨_, rfl⟩, hW, hsame.mono (by decide) (by decide)⟩
      · show Steps p.tables e below (T3.setTop (mkF m 15 #[.val (.ref a1), .val (.long q2), .second] [(.int (lcmpW q2 hi))])) _
        refine XS.ifYes X3.here hx rfl (pc0 := 15) (pc' := 22) rfl (hb hby d4_15) rfl ((if0 _ _).trans (tlt ((lw_gt _ _).mpr c15)).2.2.1) (by decide) (by decide) ?_
        show Steps p.tables e below (T3.setTop (mkF m 22 #[.val (.ref a1), .val (.long q2), .second] [])) _
        refine XS.iconst X3.here hx rfl (hb hby d4_22) ?_
        show Steps p.tables e below (T3.setTop (mkF m 23 #[.val (.ref a1), .val (.long q2), .second] [(.int (0 : Int32))])) _
        exact retN X3 hx (t := .boolean) Bd.returns (by simp) (hb hby d4_23) hr
      · show Qc Z a1 q2 lo hi h0 n0 _ T3.heap _
        rw [e3]
        exact ⟨⟨_, rfl, Or.inr ⟨rfl, Or.inr c15⟩⟩, N0, rfl⟩
    · obtain ⟨fs, hr, hrun, hended, hW, hsame⟩ := X3.leave (v := some (.int (1 : Int32))) (fun h => by rw [Bd.returns] at h; cases h)
      refine ⟨_, _, pre4 _ ?_, hrun, hended, _, _, rfl, ?_, ⟨_, rfl⟩, hW, hsame.mono (by decide) (by decide)⟩
      · show Steps p.tables e below (T3.setTop (mkF m 15 #[.val (.ref a1), .val (.long q2), .second] [(.int (lcmpW q2 hi))])) _
        refine XS.ifNo X3.here hx rfl (hb hby d4_15) rfl ((if0 _ _).trans (flt (fun z => c15 ((lw_gt _ _).mp z))).2.2.1) ?_
        show Steps p.tables e below (T3.setTop (mkF m 18 #[.val (.ref a1), .val (.long q2), .second] [])) _
        refine XS.iconst X3.here hx rfl (hb hby d4_18) ?_
        show Steps p.tables e below (T3.setTop (mkF m 19 #[.val (.ref a1), .val (.long q2), .second] [(.int (1 : Int32))])) _
        refine XS.goto X3.here hx rfl (pc0 := 19) (pc' := 23) rfl (hb hby d4_19) (by decide) (by decide) ?_
        show Steps p.tables e below (T3.setTop (mkF m 23 #[.val (.ref a1), .val (.long q2), .second] [(.int (1 : Int32))])) _
        exact retN X3 hx (t := .boolean) Bd.returns (by simp) (hb hby d4_23) hr
      · show Qc Z a1 q2 lo hi h0 n0 _ T3.heap _
        rw [e3]
        exact ⟨⟨_, rfl, Or.inl ⟨rfl, c6, c15⟩⟩, N0, rfl⟩
def Qx (Z : State) (q1 q2 : Int64) (h0 : Heap) (n0 : Nat) (v : Option Value) (h : Heap) (L : List Loc) : Prop := (∃ r : Int64, v = some (.long r) ∧ ((r = q2 ∧ q1 < q2) ∨ (r = q1 ∧ ¬ q1 < q2))) ∧ Fr n0 L ∧ h = h0
theorem d7_0 : decode jdk_29_method_66_code 0 = .ok (.lload_n 0, 1) := by decide +kernel
theorem d7_1 : decode jdk_29_method_66_code 1 = .ok (.lload_n 2, 1) := by decide +kernel
theorem d7_2 : decode jdk_29_method_66_code 2 = .ok (.lcmp, 1) := by decide +kernel
theorem d7_3 : decode jdk_29_method_66_code 3 = .ok (.ifCond .lt 7, 3) := by decide +kernel
theorem d7_10 : decode jdk_29_method_66_code 10 = .ok (.lload_n 2, 1) := by decide +kernel
theorem d7_11 : decode jdk_29_method_66_code 11 = .ok (.lreturn, 1) := by decide +kernel
theorem d7_6 : decode jdk_29_method_66_code 6 = .ok (.lload_n 0, 1) := by decide +kernel
theorem d7_7 : decode jdk_29_method_66_code 7 = .ok (.goto 4, 3) := by decide +kernel
theorem ef_7 (m : MethodId) (q1 : Int64) (q2 : Int64) : entryFrame m #[(.long q1), (.long q2)] 4 = mkF m 0 #[.val (.long q1), .second, .val (.long q2), .second] [] := by first | (simp [entryFrame, mkF, argsToLocals, Value.category]; done) | rfl
set_option maxRecDepth 65536 in
set_option maxHeartbeats 40000000 in
theorem rmQx (l : Launch) (Z : State) (a0 : Array Value) (hw : ∀ d ∈ tables_1, d.before a0 Z = true) (ws : List Jvm.Cond) (q1 : Int64) (q2 : Int64)  (h0 : Heap) (n0 : Nat) (Z0 : n0 ≤ h0.size)  :
    MetFree l (⟨"java/lang/Math", "max", "(JJ)J"⟩ : MethodName) (head1 (Jvm.Cond.code (⟨"java/lang/Math", "max", "(JJ)J"⟩ : MethodName) jdk_29_method_66_code 4 (some .long) :: ws) ({ frames := 0, cells := 0, slots := 0, locals := 0 } : Room)) (fun a U => a = #[(.long q1), (.long q2)] ∧ Z.Warmed39 U.vm ∧ U.heap = h0) (fun _ _ _ _ _ => True) (fun _ U o U' => ∃ v L, o = .returned v ∧ Qx Z q1 q2 h0 n0 v U'.heap L ∧ FrameEnd U o U' L ({ frames := 0, cells := 0, slots := 0, locals := 0 } : Room).cells ({ frames := 0, cells := 0, slots := 0, locals := 0 } : Room).slots) := by
  refine MetFree.of_bodySF (Jvm.Free.JP.mathPlain rfl (by decide +kernel)) hisR ?_
  intro p e s m args below meth c s₁ Bd hml0 hP hK
  obtain ⟨rfl, hZ, hh⟩ := hP
  have hx := Bd.exec
  have hby := Bd.bytes
  have hml : c.maxLocals = 4 := hml0
  have hown : s.vm.findClass "java/lang/Math" = some m.cls := findClass_of_methodNamed Bd.named
  have hnm := (name_of_methodNamed Bd.named Bd.method).1
  have X0 : Stand p l e ({ frames := 0, cells := 0, slots := 0, locals := 0 } : Room) s m #[(.long q1), (.long q2)] below meth c s₁ [] 0 0 := Stand.of_body Bd
  have e0 : s₁.heap = h0 := by rw [← hh, Bd.state]; rfl
  have N0 := Fr.nil n0
  have pre0 : ∀ t, Steps p.tables e below (s₁.setTop (mkF m 0 #[.val (.long q1), .second, .val (.long q2), .second] [])) t → Steps p.tables e below (s₁.setTop (entryFrame m #[(.long q1), (.long q2)] 4)) t := fun t k => castTop (ef_7 m q1 q2) k
  have pre1 : ∀ t, Steps p.tables e below (s₁.setTop (mkF m 3 #[.val (.long q1), .second, .val (.long q2), .second] [(.int (lcmpW q1 q2))])) t → Steps p.tables e below (s₁.setTop (entryFrame m #[(.long q1), (.long q2)] 4)) t := by
    intro t k
    refine pre0 t ?_
    show Steps p.tables e below (s₁.setTop (mkF m 0 #[.val (.long q1), .second, .val (.long q2), .second] [])) _
    refine XS.lloadN X0.here hx rfl (hb hby d7_0) rfl ?_
    show Steps p.tables e below (s₁.setTop (mkF m 1 #[.val (.long q1), .second, .val (.long q2), .second] [(.long q1)])) _
    refine XS.lloadN X0.here hx rfl (hb hby d7_1) rfl ?_
    show Steps p.tables e below (s₁.setTop (mkF m 2 #[.val (.long q1), .second, .val (.long q2), .second] [(.long q2), (.long q1)])) _
    refine XS.lcmp X0.here hx rfl (hb hby d7_2) rfl ?_
    exact k
  by_cases c3 : q1 < q2
  · obtain ⟨fs, hr, hrun, hended, hW, hsame⟩ := X0.leave (v := some (.long q2)) (fun h => by rw [Bd.returns] at h; cases h)
    refine ⟨_, _, pre1 _ ?_, hrun, hended, _, _, rfl, ?_, ⟨_, rfl⟩, hW, hsame.mono (by decide) (by decide)⟩
    · show Steps p.tables e below (s₁.setTop (mkF m 3 #[.val (.long q1), .second, .val (.long q2), .second] [(.int (lcmpW q1 q2))])) _
      refine XS.ifYes X0.here hx rfl (pc0 := 3) (pc' := 10) rfl (hb hby d7_3) rfl ((if0 _ _).trans (tlt ((lw_lt _ _).mpr c3)).1) (by decide) (by decide) ?_
      show Steps p.tables e below (s₁.setTop (mkF m 10 #[.val (.long q1), .second, .val (.long q2), .second] [])) _
      refine XS.lloadN X0.here hx rfl (hb hby d7_10) rfl ?_
      show Steps p.tables e below (s₁.setTop (mkF m 11 #[.val (.long q1), .second, .val (.long q2), .second] [(.long q2)])) _
      jvm_step X0.here [X0.here.top, hx, (hb hby d7_11), X0.method', Bd.returns, narrow]
      first | (intro acts; rw [hr _ acts rfl rfl rfl]) | rw [hr _ _ rfl rfl rfl]
      exact Steps.refl _
    · show Qx Z q1 q2 h0 n0 _ s₁.heap _
      rw [e0]
      exact ⟨⟨_, rfl, Or.inl ⟨rfl, c3⟩⟩, N0, rfl⟩
  · obtain ⟨fs, hr, hrun, hended, hW, hsame⟩ := X0.leave (v := some (.long q1)) (fun h => by rw [Bd.returns] at h; cases h)
    refine ⟨_, _, pre1 _ ?_, hrun, hended, _, _, rfl, ?_, ⟨_, rfl⟩, hW, hsame.mono (by decide) (by decide)⟩
    · show Steps p.tables e below (s₁.setTop (mkF m 3 #[.val (.long q1), .second, .val (.long q2), .second] [(.int (lcmpW q1 q2))])) _
      refine XS.ifNo X0.here hx rfl (hb hby d7_3) rfl ((if0 _ _).trans (flt (fun z => c3 ((lw_lt _ _).mp z))).1) ?_
      show Steps p.tables e below (s₁.setTop (mkF m 6 #[.val (.long q1), .second, .val (.long q2), .second] [])) _
      refine XS.lloadN X0.here hx rfl (hb hby d7_6) rfl ?_
      show Steps p.tables e below (s₁.setTop (mkF m 7 #[.val (.long q1), .second, .val (.long q2), .second] [(.long q1)])) _
      refine XS.goto X0.here hx rfl (pc0 := 7) (pc' := 11) rfl (hb hby d7_7) (by decide) (by decide) ?_
      show Steps p.tables e below (s₁.setTop (mkF m 11 #[.val (.long q1), .second, .val (.long q2), .second] [(.long q1)])) _
      jvm_step X0.here [X0.here.top, hx, (hb hby d7_11), X0.method', Bd.returns, narrow]
      first | (intro acts; rw [hr _ acts rfl rfl rfl]) | rw [hr _ _ rfl rfl rfl]
      exact Steps.refl _
    · show Qx Z q1 q2 h0 n0 _ s₁.heap _
      rw [e0]
      exact ⟨⟨_, rfl, Or.inr ⟨rfl, c3⟩⟩, N0, rfl⟩
def Qm (Z : State) (q1 q2 : Int64) (h0 : Heap) (n0 : Nat) (v : Option Value) (h : Heap) (L : List Loc) : Prop := (∃ r : Int64, v = some (.long r) ∧ ((r = q2 ∧ q2 < q1) ∨ (r = q1 ∧ ¬ q2 < q1))) ∧ Fr n0 L ∧ h = h0
theorem d8_0 : decode jdk_29_method_70_code 0 = .ok (.lload_n 0, 1) := by decide +kernel
theorem d8_1 : decode jdk_29_method_70_code 1 = .ok (.lload_n 2, 1) := by decide +kernel
theorem d8_2 : decode jdk_29_method_70_code 2 = .ok (.lcmp, 1) := by decide +kernel
theorem d8_3 : decode jdk_29_method_70_code 3 = .ok (.ifCond .gt 7, 3) := by decide +kernel
theorem d8_10 : decode jdk_29_method_70_code 10 = .ok (.lload_n 2, 1) := by decide +kernel
theorem d8_11 : decode jdk_29_method_70_code 11 = .ok (.lreturn, 1) := by decide +kernel
theorem d8_6 : decode jdk_29_method_70_code 6 = .ok (.lload_n 0, 1) := by decide +kernel
theorem d8_7 : decode jdk_29_method_70_code 7 = .ok (.goto 4, 3) := by decide +kernel
theorem ef_8 (m : MethodId) (q1 : Int64) (q2 : Int64) : entryFrame m #[(.long q1), (.long q2)] 4 = mkF m 0 #[.val (.long q1), .second, .val (.long q2), .second] [] := by first | (simp [entryFrame, mkF, argsToLocals, Value.category]; done) | rfl
set_option maxRecDepth 65536 in
set_option maxHeartbeats 40000000 in
theorem rmQm (l : Launch) (Z : State) (a0 : Array Value) (hw : ∀ d ∈ tables_1, d.before a0 Z = true) (ws : List Jvm.Cond) (q1 : Int64) (q2 : Int64)  (h0 : Heap) (n0 : Nat) (Z0 : n0 ≤ h0.size)  :
    MetFree l (⟨"java/lang/Math", "min", "(JJ)J"⟩ : MethodName) (head1 (Jvm.Cond.code (⟨"java/lang/Math", "min", "(JJ)J"⟩ : MethodName) jdk_29_method_70_code 4 (some .long) :: ws) ({ frames := 0, cells := 0, slots := 0, locals := 0 } : Room)) (fun a U => a = #[(.long q1), (.long q2)] ∧ Z.Warmed39 U.vm ∧ U.heap = h0) (fun _ _ _ _ _ => True) (fun _ U o U' => ∃ v L, o = .returned v ∧ Qm Z q1 q2 h0 n0 v U'.heap L ∧ FrameEnd U o U' L ({ frames := 0, cells := 0, slots := 0, locals := 0 } : Room).cells ({ frames := 0, cells := 0, slots := 0, locals := 0 } : Room).slots) := by
  refine MetFree.of_bodySF (Jvm.Free.JP.mathPlain rfl (by decide +kernel)) hisR ?_
  intro p e s m args below meth c s₁ Bd hml0 hP hK
  obtain ⟨rfl, hZ, hh⟩ := hP
  have hx := Bd.exec
  have hby := Bd.bytes
  have hml : c.maxLocals = 4 := hml0
  have hown : s.vm.findClass "java/lang/Math" = some m.cls := findClass_of_methodNamed Bd.named
  have hnm := (name_of_methodNamed Bd.named Bd.method).1
  have X0 : Stand p l e ({ frames := 0, cells := 0, slots := 0, locals := 0 } : Room) s m #[(.long q1), (.long q2)] below meth c s₁ [] 0 0 := Stand.of_body Bd
  have e0 : s₁.heap = h0 := by rw [← hh, Bd.state]; rfl
  have N0 := Fr.nil n0
  have pre0 : ∀ t, Steps p.tables e below (s₁.setTop (mkF m 0 #[.val (.long q1), .second, .val (.long q2), .second] [])) t → Steps p.tables e below (s₁.setTop (entryFrame m #[(.long q1), (.long q2)] 4)) t := fun t k => castTop (ef_8 m q1 q2) k
  have pre1 : ∀ t, Steps p.tables e below (s₁.setTop (mkF m 3 #[.val (.long q1), .second, .val (.long q2), .second] [(.int (lcmpW q1 q2))])) t → Steps p.tables e below (s₁.setTop (entryFrame m #[(.long q1), (.long q2)] 4)) t := by
    intro t k
    refine pre0 t ?_
    show Steps p.tables e below (s₁.setTop (mkF m 0 #[.val (.long q1), .second, .val (.long q2), .second] [])) _
    refine XS.lloadN X0.here hx rfl (hb hby d8_0) rfl ?_
    show Steps p.tables e below (s₁.setTop (mkF m 1 #[.val (.long q1), .second, .val (.long q2), .second] [(.long q1)])) _
    refine XS.lloadN X0.here hx rfl (hb hby d8_1) rfl ?_
    show Steps p.tables e below (s₁.setTop (mkF m 2 #[.val (.long q1), .second, .val (.long q2), .second] [(.long q2), (.long q1)])) _
    refine XS.lcmp X0.here hx rfl (hb hby d8_2) rfl ?_
    exact k
  by_cases c3 : q2 < q1
  · obtain ⟨fs, hr, hrun, hended, hW, hsame⟩ := X0.leave (v := some (.long q2)) (fun h => by rw [Bd.returns] at h; cases h)
    refine ⟨_, _, pre1 _ ?_, hrun, hended, _, _, rfl, ?_, ⟨_, rfl⟩, hW, hsame.mono (by decide) (by decide)⟩
    · show Steps p.tables e below (s₁.setTop (mkF m 3 #[.val (.long q1), .second, .val (.long q2), .second] [(.int (lcmpW q1 q2))])) _
      refine XS.ifYes X0.here hx rfl (pc0 := 3) (pc' := 10) rfl (hb hby d8_3) rfl ((if0 _ _).trans (tlt ((lw_gt _ _).mpr c3)).2.2.1) (by decide) (by decide) ?_
      show Steps p.tables e below (s₁.setTop (mkF m 10 #[.val (.long q1), .second, .val (.long q2), .second] [])) _
      refine XS.lloadN X0.here hx rfl (hb hby d8_10) rfl ?_
      show Steps p.tables e below (s₁.setTop (mkF m 11 #[.val (.long q1), .second, .val (.long q2), .second] [(.long q2)])) _
      jvm_step X0.here [X0.here.top, hx, (hb hby d8_11), X0.method', Bd.returns, narrow]
      first | (intro acts; rw [hr _ acts rfl rfl rfl]) | rw [hr _ _ rfl rfl rfl]
      exact Steps.refl _
    · show Qm Z q1 q2 h0 n0 _ s₁.heap _
      rw [e0]
      exact ⟨⟨_, rfl, Or.inl ⟨rfl, c3⟩⟩, N0, rfl⟩
  · obtain ⟨fs, hr, hrun, hended, hW, hsame⟩ := X0.leave (v := some (.long q1)) (fun h => by rw [Bd.returns] at h; cases h)
    refine ⟨_, _, pre1 _ ?_, hrun, hended, _, _, rfl, ?_, ⟨_, rfl⟩, hW, hsame.mono (by decide) (by decide)⟩
    · show Steps p.tables e below (s₁.setTop (mkF m 3 #[.val (.long q1), .second, .val (.long q2), .second] [(.int (lcmpW q1 q2))])) _
      refine XS.ifNo X0.here hx rfl (hb hby d8_3) rfl ((if0 _ _).trans (flt (fun z => c3 ((lw_gt _ _).mp z))).2.2.1) ?_
      show Steps p.tables e below (s₁.setTop (mkF m 6 #[.val (.long q1), .second, .val (.long q2), .second] [])) _
      refine XS.lloadN X0.here hx rfl (hb hby d8_6) rfl ?_
      show Steps p.tables e below (s₁.setTop (mkF m 7 #[.val (.long q1), .second, .val (.long q2), .second] [(.long q1)])) _
      refine XS.goto X0.here hx rfl (pc0 := 7) (pc' := 11) rfl (hb hby d8_7) (by decide) (by decide) ?_
      show Steps p.tables e below (s₁.setTop (mkF m 11 #[.val (.long q1), .second, .val (.long q2), .second] [(.long q1)])) _
      jvm_step X0.here [X0.here.top, hx, (hb hby d8_11), X0.method', Bd.returns, narrow]
      first | (intro acts; rw [hr _ acts rfl rfl rfl]) | rw [hr _ _ rfl rfl rfl]
      exact Steps.refl _
    · show Qm Z q1 q2 h0 n0 _ s₁.heap _
      rw [e0]
      exact ⟨⟨_, rfl, Or.inr ⟨rfl, c3⟩⟩, N0, rfl⟩
def Qe (Z : State) (q1 : Int64) (h0 : Heap) (n0 : Nat) (v : Option Value) (h : Heap) (L : List Loc) : Prop := (∃ b : Addr, v = some (.ref b) ∧ Exa Z h b "com/example/winnowpack/winnowpack/codec/Interval" ∧ Fld Z h b "com/example/winnowpack/winnowpack/codec/Interval" "low" "J" (.long q1) ∧ Fld Z h b "com/example/winnowpack/winnowpack/codec/Interval" "high" "J" (.long q1)) ∧ Fr n0 L ∧ Keep h0 h []
theorem d5_0 : decode prog_52_method_6_code 0 = .ok (.new 8, 3) := by decide +kernel
theorem d5_3 : decode prog_52_method_6_code 3 = .ok (.dup, 1) := by decide +kernel
theorem d5_4 : decode prog_52_method_6_code 4 = .ok (.lload_n 0, 1) := by decide +kernel
theorem d5_5 : decode prog_52_method_6_code 5 = .ok (.lload_n 0, 1) := by decide +kernel
theorem d5_6 : decode prog_52_method_6_code 6 = .ok (.invokespecial 24, 3) := by decide +kernel
theorem pd_1 : parseMethodDescriptor "(JJ)V" = some ⟨[.long, .long], none⟩ := by decide +kernel
theorem d5_9 : decode prog_52_method_6_code 9 = .ok (.areturn, 1) := by decide +kernel
theorem ef_5 (m : MethodId) (q1 : Int64) : entryFrame m #[(.long q1)] 2 = mkF m 0 #[.val (.long q1), .second] [] := by first | (simp [entryFrame, mkF, argsToLocals, Value.category]; done) | rfl
set_option maxRecDepth 65536 in
set_option maxHeartbeats 40000000 in
theorem rmE (l : Launch) (Z : State) (a0 : Array Value) (hw : ∀ d ∈ tables_1, d.before a0 Z = true) (ws : List Jvm.Cond) (q1 : Int64)  (h0 : Heap) (n0 : Nat) (Z0 : n0 ≤ h0.size)  :
    MetFree l (⟨"com/example/winnowpack/winnowpack/codec/Interval", "equalTo", "(J)Lcom/example/winnowpack/winnowpack/codec/Interval;"⟩ : MethodName) (head1 (Jvm.Cond.code (⟨"com/example/winnowpack/winnowpack/codec/Interval", "equalTo", "(J)Lcom/example/winnowpack/winnowpack/codec/Interval;"⟩ : MethodName) prog_52_method_6_code 2 (some (.object "com/example/winnowpack/winnowpack/codec/Interval")) :: ws) ({ frames := 3, cells := 1, slots := 2, locals := 41 } : Room)) (fun a U => a = #[(.long q1)] ∧ Z.Warmed39 U.vm ∧ U.heap = h0) (fun _ _ _ _ _ => True) (fun _ U o U' => ∃ v L, o = .returned v ∧ Qe Z q1 h0 n0 v U'.heap L ∧ FrameEnd U o U' L ({ frames := 3, cells := 1, slots := 2, locals := 41 } : Room).cells ({ frames := 3, cells := 1, slots := 2, locals := 41 } : Room).slots) := by
  refine MetFree.of_bodySF (plainFor_of_name pn_1) hisR ?_
  intro p e s m args below meth c s₁ Bd hml0 hP hK
  obtain ⟨rfl, hZ, hh⟩ := hP
  have hx := Bd.exec
  have hby := Bd.bytes
  have hml : c.maxLocals = 2 := hml0
  have hown : s.vm.findClass "com/example/winnowpack/winnowpack/codec/Interval" = some m.cls := findClass_of_methodNamed Bd.named
  have hnm := (name_of_methodNamed Bd.named Bd.method).1
  have X0 : Stand p l e ({ frames := 3, cells := 1, slots := 2, locals := 41 } : Room) s m #[(.long q1)] below meth c s₁ [] 0 0 := Stand.of_body Bd
  have e0 : s₁.heap = h0 := by rw [← hh, Bd.state]; rfl
  have N0 := Fr.nil n0
  have pre0 : ∀ t, Steps p.tables e below (s₁.setTop (mkF m 0 #[.val (.long q1), .second] [])) t → Steps p.tables e below (s₁.setTop (entryFrame m #[(.long q1)] 2)) t := fun t k => castTop (ef_5 m q1) k
  obtain ⟨T1, h1, X1, e1, E1, A1, D1, -, st1⟩ := newO X0 hx hZ hown (hw _ (List.mem_of_getElem? (i := 26) rfl)) (hw _ (List.mem_of_getElem? (i := 1) rfl)) (hw _ (List.mem_of_getElem? (i := 2) rfl)) e0 (g := (mkF m 0 #[.val (.long q1), .second] [])) rfl (hb hby d5_0) (by decide) (by decide)
  obtain ⟨b1, g1⟩ : ∃ z, z = h0.size := ⟨_, rfl⟩
  rw [← g1] at A1 D1 st1
  have F_low_b1 : Fld Z h1 b1 "com/example/winnowpack/winnowpack/codec/Interval" "low" "J" (.long (0 : Int64)) := D1 (Or.inr (hw _ (List.mem_of_getElem? (i := 15) rfl))) (ty := .long) (by decide)
  have F_high_b1 : Fld Z h1 b1 "com/example/winnowpack/winnowpack/codec/Interval" "high" "J" (.long (0 : Int64)) := D1 (Or.inr (hw _ (List.mem_of_getElem? (i := 17) rfl))) (ty := .long) (by decide)
  have E_b1 := A1
  have Zn : n0 ≤ h1.size := Nat.le_trans Z0 E1.1
  have gb : n0 ≤ b1 := Nat.le_trans Z0 (Nat.le_of_eq g1.symm)
  have gs : h0.size ≤ b1 := Nat.le_of_eq g1.symm
  obtain ⟨_, _, ⟨T2, L2, k2, n2⟩, -, X2, ⟨Lc2, hQ2, l2, y2, z2⟩, st2⟩ := X1.specialBack hx (y := (⟨"com/example/winnowpack/winnowpack/codec/Interval", "<init>", "(JJ)V"⟩ : MethodName)) rfl hown (mvT hZ (hw _ (List.mem_of_getElem? (i := 27) rfl))) (mvT hZ (hw _ (List.mem_of_getElem? (i := 4) rfl))) (mvT hZ (hw _ (List.mem_of_getElem? (i := 5) rfl))) (by decide) (backOf (W := 1) (rmI l Z a0 hw [] b1 q1 q1 (.long (0 : Int64)) (.long (0 : Int64)) h1 n0 Zn E_b1 F_low_b1 F_high_b1 gb) hZ (hw _ (List.mem_of_getElem? (i := 5) rfl)) (hw _ (List.mem_of_getElem? (i := 2) rfl)) (by decide) (by decide)) (g := (mkF m 6 #[.val (.long q1), .second] [(.long q1), (.long q1), (.ref b1), (.ref b1)])) rfl (by rw [hml]; rfl) (Steps.refl _) (a := b1) (argsL := [(.long q1), (.long q1)]) (rest := [(.ref b1)]) (lenOf pd_1 rfl) rfl (by show 2 * 0 + _ ≤ _; exact Nat.le_of_eq rfl) (hb hby d5_6) (fun _ _ => ⟨rfl, e1, (by decide : 1 + 0 ≤ _), (by decide : 2 + 0 ≤ _)⟩)
  dsimp only [Pt.U, Pt.locs, Pt.cells, Pt.slots] at X2 l2 y2 z2 st2 hQ2
  subst l2 y2 z2
  obtain ⟨rfl, N2q, K, E, F1, F2⟩ := hQ2
  have N2 := Fr.app N0 N2q
  obtain ⟨fs, hr, hrun, hended, hW, hsame⟩ := X2.leave (v := some (.ref b1)) (fun h => by rw [Bd.returns] at h; cases h)
  refine ⟨_, _, pre0 _ ?_, hrun, hended, _, _, rfl, ?_, ⟨_, rfl⟩, hW, hsame.mono (by decide) (by decide)⟩
  · show Steps p.tables e below (s₁.setTop (mkF m 0 #[.val (.long q1), .second] [])) _
    refine st1 _ ?_
    show Steps p.tables e below (T1.setTop (mkF m 3 #[.val (.long q1), .second] [(.ref b1)])) _
    refine XS.dup X1.here hx rfl (hb hby d5_3) rfl rfl ?_
    show Steps p.tables e below (T1.setTop (mkF m 4 #[.val (.long q1), .second] [(.ref b1), (.ref b1)])) _
    refine XS.lloadN X1.here hx rfl (hb hby d5_4) rfl ?_
    show Steps p.tables e below (T1.setTop (mkF m 5 #[.val (.long q1), .second] [(.long q1), (.ref b1), (.ref b1)])) _
    refine XS.lloadN X1.here hx rfl (hb hby d5_5) rfl ?_
    show Steps p.tables e below (T1.setTop (mkF m 6 #[.val (.long q1), .second] [(.long q1), (.long q1), (.ref b1), (.ref b1)])) _
    refine st2.trans ?_
    show Steps p.tables e below (T2.setTop (mkF m 9 #[.val (.long q1), .second] [(.ref b1)])) _
    jvm_step X2.here [X2.here.top, hx, (hb hby d5_9), X2.method', Bd.returns, Value.isRef, FieldType.isReference]
    first | (intro acts; rw [hr _ acts rfl rfl rfl]) | rw [hr _ _ rfl rfl rfl]
    exact Steps.refl _
  · show Qe Z q1 h0 n0 _ T2.heap _
    exact ⟨⟨_, rfl, E, F1, F2⟩, N2, ((Keep.refl h0 []).ext E1).trans K (allS (Or.inr gs) all0)⟩
def Qa (Z : State) (a1 a2 : Addr) (lo hi l2 h2 : Int64) (h0 : Heap) (n0 : Nat) (v : Option Value) (h : Heap) (L : List Loc) : Prop := (∃ (b : Addr) (x y : Int64), v = some (.ref b) ∧ ((x = l2 ∧ lo < l2) ∨ (x = lo ∧ ¬ lo < l2)) ∧ ((y = h2 ∧ h2 < hi) ∨ (y = hi ∧ ¬ h2 < hi)) ∧ Exa Z h b "com/example/winnowpack/winnowpack/codec/Interval" ∧ Fld Z h b "com/example/winnowpack/winnowpack/codec/Interval" "low" "J" (.long x) ∧ Fld Z h b "com/example/winnowpack/winnowpack/codec/Interval" "high" "J" (.long y)) ∧ Fr n0 L ∧ Keep h0 h []
theorem d6_0 : decode prog_52_method_7_code 0 = .ok (.new 8, 3) := by decide +kernel
theorem d6_3 : decode prog_52_method_7_code 3 = .ok (.dup, 1) := by decide +kernel
theorem d6_4 : decode prog_52_method_7_code 4 = .ok (.aload_n 0, 1) := by decide +kernel
theorem d6_5 : decode prog_52_method_7_code 5 = .ok (.getfield 7, 3) := by decide +kernel
theorem d6_8 : decode prog_52_method_7_code 8 = .ok (.aload_n 1, 1) := by decide +kernel
theorem d6_9 : decode prog_52_method_7_code 9 = .ok (.getfield 7, 3) := by decide +kernel
theorem d6_12 : decode prog_52_method_7_code 12 = .ok (.invokestatic 29, 3) := by decide +kernel
theorem pd_2 : parseMethodDescriptor "(JJ)J" = some ⟨[.long, .long], some .long⟩ := by decide +kernel
theorem d6_15 : decode prog_52_method_7_code 15 = .ok (.aload_n 0, 1) := by decide +kernel
theorem d6_16 : decode prog_52_method_7_code 16 = .ok (.getfield 13, 3) := by decide +kernel
theorem d6_19 : decode prog_52_method_7_code 19 = .ok (.aload_n 1, 1) := by decide +kernel
theorem d6_20 : decode prog_52_method_7_code 20 = .ok (.getfield 13, 3) := by decide +kernel
theorem d6_23 : decode prog_52_method_7_code 23 = .ok (.invokestatic 35, 3) := by decide +kernel
theorem d6_26 : decode prog_52_method_7_code 26 = .ok (.invokespecial 24, 3) := by decide +kernel
theorem d6_29 : decode prog_52_method_7_code 29 = .ok (.areturn, 1) := by decide +kernel
theorem ef_6 (m : MethodId) (a1 : Addr) (a2 : Addr) : entryFrame m #[(.ref a1), (.ref a2)] 2 = mkF m 0 #[.val (.ref a1), .val (.ref a2)] [] := by first | (simp [entryFrame, mkF, argsToLocals, Value.category]; done) | rfl
set_option maxRecDepth 65536 in
set_option maxHeartbeats 40000000 in
theorem rmA (l : Launch) (Z : State) (a0 : Array Value) (hw : ∀ d ∈ tables_1, d.before a0 Z = true) (ws : List Jvm.Cond) (a1 : Addr) (a2 : Addr) (lo hi l2 h2 : Int64) (h0 : Heap) (n0 : Nat) (Z0 : n0 ≤ h0.size) (F1 : Fld Z h0 a1 "com/example/winnowpack/winnowpack/codec/Interval" "low" "J" (.long lo)) (F2 : Fld Z h0 a1 "com/example/winnowpack/winnowpack/codec/Interval" "high" "J" (.long hi)) (G1 : Fld Z h0 a2 "com/example/winnowpack/winnowpack/codec/Interval" "low" "J" (.long l2)) (G2 : Fld Z h0 a2 "com/example/winnowpack/winnowpack/codec/Interval" "high" "J" (.long h2)) :
    MetFree l (⟨"com/example/winnowpack/winnowpack/codec/Interval", "and", "(Lcom/example/winnowpack/winnowpack/codec/Interval;)Lcom/example/winnowpack/winnowpack/codec/Interval;"⟩ : MethodName) (head1 (Jvm.Cond.code (⟨"com/example/winnowpack/winnowpack/codec/Interval", "and", "(Lcom/example/winnowpack/winnowpack/codec/Interval;)Lcom/example/winnowpack/winnowpack/codec/Interval;"⟩ : MethodName) prog_52_method_7_code 2 (some (.object "com/example/winnowpack/winnowpack/codec/Interval")) :: ws) ({ frames := 3, cells := 1, slots := 2, locals := 41 } : Room)) (fun a U => a = #[(.ref a1), (.ref a2)] ∧ Z.Warmed39 U.vm ∧ U.heap = h0) (fun _ _ _ _ _ => True) (fun _ U o U' => ∃ v L, o = .returned v ∧ Qa Z a1 a2 lo hi l2 h2 h0 n0 v U'.heap L ∧ FrameEnd U o U' L ({ frames := 3, cells := 1, slots := 2, locals := 41 } : Room).cells ({ frames := 3, cells := 1, slots := 2, locals := 41 } : Room).slots) := by
  refine MetFree.of_bodySF (plainFor_of_name pn_1) hisR ?_
  intro p e s m args below meth c s₁ Bd hml0 hP hK
  obtain ⟨rfl, hZ, hh⟩ := hP
  have hx := Bd.exec
  have hby := Bd.bytes
  have hml : c.maxLocals = 2 := hml0
  have hown : s.vm.findClass "com/example/winnowpack/winnowpack/codec/Interval" = some m.cls := findClass_of_methodNamed Bd.named
  have hnm := (name_of_methodNamed Bd.named Bd.method).1
  have X0 : Stand p l e ({ frames := 3, cells := 1, slots := 2, locals := 41 } : Room) s m #[(.ref a1), (.ref a2)] below meth c s₁ [] 0 0 := Stand.of_body Bd
  have e0 : s₁.heap = h0 := by rw [← hh, Bd.state]; rfl
  have N0 := Fr.nil n0
  have pre0 : ∀ t, Steps p.tables e below (s₁.setTop (mkF m 0 #[.val (.ref a1), .val (.ref a2)] [])) t → Steps p.tables e below (s₁.setTop (entryFrame m #[(.ref a1), (.ref a2)] 2)) t := fun t k => castTop (ef_6 m a1 a2) k
  obtain ⟨T1, h1, X1, e1, E1, A1, D1, -, st1⟩ := newO X0 hx hZ hown (hw _ (List.mem_of_getElem? (i := 26) rfl)) (hw _ (List.mem_of_getElem? (i := 1) rfl)) (hw _ (List.mem_of_getElem? (i := 2) rfl)) e0 (g := (mkF m 0 #[.val (.ref a1), .val (.ref a2)] [])) rfl (hb hby d6_0) (by decide) (by decide)
  obtain ⟨b1, g1⟩ : ∃ z, z = h0.size := ⟨_, rfl⟩
  rw [← g1] at A1 D1 st1
  have F_low_b1 : Fld Z h1 b1 "com/example/winnowpack/winnowpack/codec/Interval" "low" "J" (.long (0 : Int64)) := D1 (Or.inr (hw _ (List.mem_of_getElem? (i := 15) rfl))) (ty := .long) (by decide)
  have F_high_b1 : Fld Z h1 b1 "com/example/winnowpack/winnowpack/codec/Interval" "high" "J" (.long (0 : Int64)) := D1 (Or.inr (hw _ (List.mem_of_getElem? (i := 17) rfl))) (ty := .long) (by decide)
  have E_b1 := A1
  have Zn : n0 ≤ h1.size := Nat.le_trans Z0 E1.1
  have gb : n0 ≤ b1 := Nat.le_trans Z0 (Nat.le_of_eq g1.symm)
  have gs : h0.size ≤ b1 := Nat.le_of_eq g1.symm
  obtain ⟨T2, X2, e2, st2⟩ := getF X1 hx hZ hown (host := "") (Or.inl (hw _ (List.mem_of_getElem? (i := 14) rfl))) Via.refl e1 (F1.ext E1) (g := (mkF m 5 #[.val (.ref a1), .val (.ref a2)] [(.ref a1), (.ref b1), (.ref b1)])) rfl rfl (hb hby d6_5)
  obtain ⟨T3, X3, e3, st3⟩ := getF X2 hx hZ hown (host := "") (Or.inl (hw _ (List.mem_of_getElem? (i := 14) rfl))) Via.refl e2 (G1.ext E1) (g := (mkF m 9 #[.val (.ref a1), .val (.ref a2)] [(.ref a2), (.long lo), (.ref b1), (.ref b1)])) rfl rfl (hb hby d6_9)
  obtain ⟨_, _, ⟨T4, L4, k4, n4⟩, -, X4, ⟨Lc4, hQ4, l4, y4, z4⟩, st4⟩ := Jvm.LawKit.callS X3 hx (y := (⟨"java/lang/Math", "max", "(JJ)J"⟩ : MethodName)) hown (mvT hZ (hw _ (List.mem_of_getElem? (i := 33) rfl))) (mvT hZ (hw _ (List.mem_of_getElem? (i := 34) rfl))) (mvT hZ (hw _ (List.mem_of_getElem? (i := 35) rfl))) (mvT hZ (hw _ (List.mem_of_getElem? (i := 36) rfl))) (by decide) (backOf (W := 2) (rmQx l Z a0 hw [] lo l2 h1 n0 Zn) hZ (hw _ (List.mem_of_getElem? (i := 36) rfl)) (hw _ (List.mem_of_getElem? (i := 35) rfl)) (by decide) (by decide)) (g := (mkF m 12 #[.val (.ref a1), .val (.ref a2)] [(.long l2), (.long lo), (.ref b1), (.ref b1)])) rfl (by rw [hml]; rfl) (argsL := [(.long lo), (.long l2)]) (rest := [(.ref b1), (.ref b1)]) (lenOf pd_2 rfl) rfl (by show 2 * 0 + _ ≤ _; exact Nat.le_of_eq rfl) (hb hby d6_12) (fun _ _ => ⟨rfl, e3, (by decide : 1 + 0 ≤ _), (by decide : 2 + 0 ≤ _)⟩)
  dsimp only [Pt.U, Pt.locs, Pt.cells, Pt.slots] at X4 l4 y4 z4 st4 hQ4
  subst l4 y4 z4
  obtain ⟨⟨x, rfl, hx1⟩, N4q, e4⟩ := hQ4
  have N4 := Fr.app N0 N4q
  obtain ⟨T5, X5, e5, st5⟩ := getF X4 hx hZ hown (host := "") (Or.inl (hw _ (List.mem_of_getElem? (i := 16) rfl))) Via.refl e4 (F2.ext E1) (g := (mkF m 16 #[.val (.ref a1), .val (.ref a2)] [(.ref a1), (.long x), (.ref b1), (.ref b1)])) rfl rfl (hb hby d6_16)
  obtain ⟨T6, X6, e6, st6⟩ := getF X5 hx hZ hown (host := "") (Or.inl (hw _ (List.mem_of_getElem? (i := 16) rfl))) Via.refl e5 (G2.ext E1) (g := (mkF m 20 #[.val (.ref a1), .val (.ref a2)] [(.ref a2), (.long hi), (.long x), (.ref b1), (.ref b1)])) rfl rfl (hb hby d6_20)
  obtain ⟨_, _, ⟨T7, L7, k7, n7⟩, -, X7, ⟨Lc7, hQ7, l7, y7, z7⟩, st7⟩ := Jvm.LawKit.callS X6 hx (y := (⟨"java/lang/Math", "min", "(JJ)J"⟩ : MethodName)) hown (mvT hZ (hw _ (List.mem_of_getElem? (i := 37) rfl))) (mvT hZ (hw _ (List.mem_of_getElem? (i := 38) rfl))) (mvT hZ (hw _ (List.mem_of_getElem? (i := 35) rfl))) (mvT hZ (hw _ (List.mem_of_getElem? (i := 39) rfl))) (by decide) (backOf (W := 4) (rmQm l Z a0 hw [] hi h2 h1 n0 Zn) hZ (hw _ (List.mem_of_getElem? (i := 39) rfl)) (hw _ (List.mem_of_getElem? (i := 35) rfl)) (by decide) (by decide)) (g := (mkF m 23 #[.val (.ref a1), .val (.ref a2)] [(.long h2), (.long hi), (.long x), (.ref b1), (.ref b1)])) rfl (by rw [hml]; rfl) (argsL := [(.long hi), (.long h2)]) (rest := [(.long x), (.ref b1), (.ref b1)]) (lenOf pd_2 rfl) rfl (by show 2 * 0 + _ ≤ _; exact Nat.le_of_eq rfl) (hb hby d6_23) (fun _ _ => ⟨rfl, e6, (by decide : 1 + 0 ≤ _), (by decide : 2 + 0 ≤ _)⟩)
  dsimp only [Pt.U, Pt.locs, Pt.cells, Pt.slots] at X7 l7 y7 z7 st7 hQ7
  subst l7 y7 z7
  obtain ⟨⟨y, rfl, hy1⟩, N7q, e7⟩ := hQ7
  have N7 := Fr.app N4 N7q
  obtain ⟨_, _, ⟨T8, L8, k8, n8⟩, -, X8, ⟨Lc8, hQ8, l8, y8, z8⟩, st8⟩ := X7.specialBack hx (y := (⟨"com/example/winnowpack/winnowpack/codec/Interval", "<init>", "(JJ)V"⟩ : MethodName)) rfl hown (mvT hZ (hw _ (List.mem_of_getElem? (i := 27) rfl))) (mvT hZ (hw _ (List.mem_of_getElem? (i := 4) rfl))) (mvT hZ (hw _ (List.mem_of_getElem? (i := 5) rfl))) (by decide) (backOf (W := 1) (rmI l Z a0 hw [] b1 x y (.long (0 : Int64)) (.long (0 : Int64)) h1 n0 Zn E_b1 F_low_b1 F_high_b1 gb) hZ (hw _ (List.mem_of_getElem? (i := 5) rfl)) (hw _ (List.mem_of_getElem? (i := 2) rfl)) (by decide) (by decide)) (g := (mkF m 26 #[.val (.ref a1), .val (.ref a2)] [(.long y), (.long x), (.ref b1), (.ref b1)])) rfl (by rw [hml]; rfl) (Steps.refl _) (a := b1) (argsL := [(.long x), (.long y)]) (rest := [(.ref b1)]) (lenOf pd_1 rfl) rfl (by show 2 * 0 + _ ≤ _; exact Nat.le_of_eq rfl) (hb hby d6_26) (fun _ _ => ⟨rfl, e7, (by decide : 1 + 0 ≤ _), (by decide : 2 + 0 ≤ _)⟩)
  dsimp only [Pt.U, Pt.locs, Pt.cells, Pt.slots] at X8 l8 y8 z8 st8 hQ8
  subst l8 y8 z8
  obtain ⟨rfl, N8q, K, E, R1, R2⟩ := hQ8
  have N8 := Fr.app N7 N8q
  obtain ⟨fs, hr, hrun, hended, hW, hsame⟩ := X8.leave (v := some (.ref b1)) (fun h => by rw [Bd.returns] at h; cases h)
  refine ⟨_, _, pre0 _ ?_, hrun, hended, _, _, rfl, ?_, ⟨_, rfl⟩, hW, hsame.mono (by decide) (by decide)⟩
  · show Steps p.tables e below (s₁.setTop (mkF m 0 #[.val (.ref a1), .val (.ref a2)] [])) _
    refine st1 _ ?_
    show Steps p.tables e below (T1.setTop (mkF m 3 #[.val (.ref a1), .val (.ref a2)] [(.ref b1)])) _
    refine XS.dup X1.here hx rfl (hb hby d6_3) rfl rfl ?_
    show Steps p.tables e below (T1.setTop (mkF m 4 #[.val (.ref a1), .val (.ref a2)] [(.ref b1), (.ref b1)])) _
    refine XS.aloadN X1.here hx rfl (hb hby d6_4) rfl rfl ?_
    show Steps p.tables e below (T1.setTop (mkF m 5 #[.val (.ref a1), .val (.ref a2)] [(.ref a1), (.ref b1), (.ref b1)])) _
    refine st2 _ ?_
    show Steps p.tables e below (T2.setTop (mkF m 8 #[.val (.ref a1), .val (.ref a2)] [(.long lo), (.ref b1), (.ref b1)])) _
    refine XS.aloadN X2.here hx rfl (hb hby d6_8) rfl rfl ?_
    show Steps p.tables e below (T2.setTop (mkF m 9 #[.val (.ref a1), .val (.ref a2)] [(.ref a2), (.long lo), (.ref b1), (.ref b1)])) _
    refine st3 _ ?_
    show Steps p.tables e below (T3.setTop (mkF m 12 #[.val (.ref a1), .val (.ref a2)] [(.long l2), (.long lo), (.ref b1), (.ref b1)])) _
    refine st4 _ ?_
    show Steps p.tables e below (T4.setTop (mkF m 15 #[.val (.ref a1), .val (.ref a2)] [(.long x), (.ref b1), (.ref b1)])) _
    refine XS.aloadN X4.here hx rfl (hb hby d6_15) rfl rfl ?_
    show Steps p.tables e below (T4.setTop (mkF m 16 #[.val (.ref a1), .val (.ref a2)] [(.ref a1), (.long x), (.ref b1), (.ref b1)])) _
    refine st5 _ ?_
    show Steps p.tables e below (T5.setTop (mkF m 19 #[.val (.ref a1), .val (.ref a2)] [(.long hi), (.long x), (.ref b1), (.ref b1)])) _
    refine XS.aloadN X5.here hx rfl (hb hby d6_19) rfl rfl ?_
    show Steps p.tables e below (T5.setTop (mkF m 20 #[.val (.ref a1), .val (.ref a2)] [(.ref a2), (.long hi), (.long x), (.ref b1), (.ref b1)])) _
    refine st6 _ ?_
    show Steps p.tables e below (T6.setTop (mkF m 23 #[.val (.ref a1), .val (.ref a2)] [(.long h2), (.long hi), (.long x), (.ref b1), (.ref b1)])) _
    refine st7 _ ?_
    show Steps p.tables e below (T7.setTop (mkF m 26 #[.val (.ref a1), .val (.ref a2)] [(.long y), (.long x), (.ref b1), (.ref b1)])) _
    refine st8.trans ?_
    show Steps p.tables e below (T8.setTop (mkF m 29 #[.val (.ref a1), .val (.ref a2)] [(.ref b1)])) _
    jvm_step X8.here [X8.here.top, hx, (hb hby d6_29), X8.method', Bd.returns, Value.isRef, FieldType.isReference]
    first | (intro acts; rw [hr _ acts rfl rfl rfl]) | rw [hr _ _ rfl rfl rfl]
    exact Steps.refl _
  · show Qa Z a1 a2 lo hi l2 h2 h0 n0 _ T8.heap _
    exact ⟨⟨_, _, _, rfl, hx1, hy1, E, R1, R2⟩, N8, ((Keep.refl h0 []).ext E1).trans K (allS (Or.inr gs) all0)⟩
def Qy (Z : State) (a1 : Addr) (lo hi : Int64) (h0 : Heap) (n0 : Nat) (v : Option Value) (h : Heap) (L : List Loc) : Prop := (∃ r : Int32, v = some (.int r) ∧ ((r = 1 ∧ hi < lo) ∨ (r = 0 ∧ ¬ hi < lo))) ∧ Fr n0 L ∧ h = h0
theorem d9_0 : decode prog_52_method_8_code 0 = .ok (.aload_n 0, 1) := by decide +kernel
theorem d9_1 : decode prog_52_method_8_code 1 = .ok (.getfield 7, 3) := by decide +kernel
theorem d9_4 : decode prog_52_method_8_code 4 = .ok (.aload_n 0, 1) := by decide +kernel
theorem d9_5 : decode prog_52_method_8_code 5 = .ok (.getfield 13, 3) := by decide +kernel
theorem d9_8 : decode prog_52_method_8_code 8 = .ok (.lcmp, 1) := by decide +kernel
theorem d9_9 : decode prog_52_method_8_code 9 = .ok (.ifCond .le 7, 3) := by decide +kernel
theorem d9_12 : decode prog_52_method_8_code 12 = .ok (.iconst 1, 1) := by decide +kernel
theorem d9_13 : decode prog_52_method_8_code 13 = .ok (.goto 4, 3) := by decide +kernel
theorem d9_17 : decode prog_52_method_8_code 17 = .ok (.ireturn, 1) := by decide +kernel
theorem d9_16 : decode prog_52_method_8_code 16 = .ok (.iconst 0, 1) := by decide +kernel
theorem ef_9 (m : MethodId) (a1 : Addr) : entryFrame m #[(.ref a1)] 1 = mkF m 0 #[.val (.ref a1)] [] := by first | (simp [entryFrame, mkF, argsToLocals, Value.category]; done) | rfl
set_option maxRecDepth 65536 in
set_option maxHeartbeats 40000000 in
theorem rmY (l : Launch) (Z : State) (a0 : Array Value) (hw : ∀ d ∈ tables_1, d.before a0 Z = true) (ws : List Jvm.Cond) (a1 : Addr) (lo hi : Int64) (h0 : Heap) (n0 : Nat) (Z0 : n0 ≤ h0.size) (F1 : Fld Z h0 a1 "com/example/winnowpack/winnowpack/codec/Interval" "low" "J" (.long lo)) (F2 : Fld Z h0 a1 "com/example/winnowpack/winnowpack/codec/Interval" "high" "J" (.long hi)) :
    MetFree l (⟨"com/example/winnowpack/winnowpack/codec/Interval", "isEmpty", "()Z"⟩ : MethodName) (head1 (Jvm.Cond.code (⟨"com/example/winnowpack/winnowpack/codec/Interval", "isEmpty", "()Z"⟩ : MethodName) prog_52_method_8_code 1 (some .boolean) :: ws) ({ frames := 0, cells := 0, slots := 0, locals := 0 } : Room)) (fun a U => a = #[(.ref a1)] ∧ Z.Warmed39 U.vm ∧ U.heap = h0) (fun _ _ _ _ _ => True) (fun _ U o U' => ∃ v L, o = .returned v ∧ Qy Z a1 lo hi h0 n0 v U'.heap L ∧ FrameEnd U o U' L ({ frames := 0, cells := 0, slots := 0, locals := 0 } : Room).cells ({ frames := 0, cells := 0, slots := 0, locals := 0 } : Room).slots) := by
  refine MetFree.of_bodySF (plainFor_of_name pn_1) hisR ?_
  intro p e s m args below meth c s₁ Bd hml0 hP hK
  obtain ⟨rfl, hZ, hh⟩ := hP
  have hx := Bd.exec
  have hby := Bd.bytes
  have hml : c.maxLocals = 1 := hml0
  have hown : s.vm.findClass "com/example/winnowpack/winnowpack/codec/Interval" = some m.cls := findClass_of_methodNamed Bd.named
  have hnm := (name_of_methodNamed Bd.named Bd.method).1
  have X0 : Stand p l e ({ frames := 0, cells := 0, slots := 0, locals := 0 } : Room) s m #[(.ref a1)] below meth c s₁ [] 0 0 := Stand.of_body Bd
  have e0 : s₁.heap = h0 := by rw [← hh, Bd.state]; rfl
  have N0 := Fr.nil n0
  have pre0 : ∀ t, Steps p.tables e below (s₁.setTop (mkF m 0 #[.val (.ref a1)] [])) t → Steps p.tables e below (s₁.setTop (entryFrame m #[(.ref a1)] 1)) t := fun t k => castTop (ef_9 m a1) k
  obtain ⟨T1, X1, e1, st1⟩ := getF X0 hx hZ hown (host := "") (Or.inl (hw _ (List.mem_of_getElem? (i := 14) rfl))) Via.refl e0 F1 (g := (mkF m 1 #[.val (.ref a1)] [(.ref a1)])) rfl rfl (hb hby d9_1)
  obtain ⟨T2, X2, e2, st2⟩ := getF X1 hx hZ hown (host := "") (Or.inl (hw _ (List.mem_of_getElem? (i := 16) rfl))) Via.refl e1 F2 (g := (mkF m 5 #[.val (.ref a1)] [(.ref a1), (.long lo)])) rfl rfl (hb hby d9_5)
  have pre3 : ∀ t, Steps p.tables e below (T2.setTop (mkF m 9 #[.val (.ref a1)] [(.int (lcmpW lo hi))])) t → Steps p.tables e below (s₁.setTop (entryFrame m #[(.ref a1)] 1)) t := by
    intro t k
    refine pre0 t ?_
    show Steps p.tables e below (s₁.setTop (mkF m 0 #[.val (.ref a1)] [])) _
    refine XS.aloadN X0.here hx rfl (hb hby d9_0) rfl rfl ?_
    show Steps p.tables e below (s₁.setTop (mkF m 1 #[.val (.ref a1)] [(.ref a1)])) _
    refine st1 _ ?_
    show Steps p.tables e below (T1.setTop (mkF m 4 #[.val (.ref a1)] [(.long lo)])) _
    refine XS.aloadN X1.here hx rfl (hb hby d9_4) rfl rfl ?_
    show Steps p.tables e below (T1.setTop (mkF m 5 #[.val (.ref a1)] [(.ref a1), (.long lo)])) _
    refine st2 _ ?_
    show Steps p.tables e below (T2.setTop (mkF m 8 #[.val (.ref a1)] [(.long hi), (.long lo)])) _
    refine XS.lcmp X2.here hx rfl (hb hby d9_8) rfl ?_
    exact k
  by_cases c9 : hi < lo
  · obtain ⟨fs, hr, hrun, hended, hW, hsame⟩ := X2.leave (v := some (.int (1 : Int32))) (fun h => by rw [Bd.returns] at h; cases h)
    refine ⟨_, _, pre3 _ ?_, hrun, hended, _, _, rfl, ?_, ⟨_, rfl⟩, hW, hsame.mono (by decide) (by decide)⟩
    · show Steps p.tables e below (T2.setTop (mkF m 9 #[.val (.ref a1)] [(.int (lcmpW lo hi))])) _
      refine XS.ifNo X2.here hx rfl (hb hby d9_9) rfl ((if0 _ _).trans (tlt ((lw_gt _ _).mpr c9)).2.2.2) ?_
      show Steps p.tables e below (T2.setTop (mkF m 12 #[.val (.ref a1)] [])) _
      refine XS.iconst X2.here hx rfl (hb hby d9_12) ?_
      show Steps p.tables e below (T2.setTop (mkF m 13 #[.val (.ref a1)] [(.int (1 : Int32))])) _
      refine XS.goto X2.here hx rfl (pc0 := 13) (pc' := 17) rfl (hb hby d9_13) (by decide) (by decide) ?_
      show Steps p.tables e below (T2.setTop (mkF m 17 #[.val (.ref a1)] [(.int (1 : Int32))])) _
      exact retN X2 hx (t := .boolean) Bd.returns (by simp) (hb hby d9_17) hr
    · show Qy Z a1 lo hi h0 n0 _ T2.heap _
      rw [e2]
      exact ⟨⟨_, rfl, Or.inl ⟨rfl, c9⟩⟩, N0, rfl⟩
  · obtain ⟨fs, hr, hrun, hended, hW, hsame⟩ := X2.leave (v := some (.int (0 : Int32))) (fun h => by rw [Bd.returns] at h; cases h)
    refine ⟨_, _, pre3 _ ?_, hrun, hended, _, _, rfl, ?_, ⟨_, rfl⟩, hW, hsame.mono (by decide) (by decide)⟩
    · show Steps p.tables e below (T2.setTop (mkF m 9 #[.val (.ref a1)] [(.int (lcmpW lo hi))])) _
      refine XS.ifYes X2.here hx rfl (pc0 := 9) (pc' := 16) rfl (hb hby d9_9) rfl ((if0 _ _).trans (flt (fun z => c9 ((lw_gt _ _).mp z))).2.2.2) (by decide) (by decide) ?_
      show Steps p.tables e below (T2.setTop (mkF m 16 #[.val (.ref a1)] [])) _
      refine XS.iconst X2.here hx rfl (hb hby d9_16) ?_
      show Steps p.tables e below (T2.setTop (mkF m 17 #[.val (.ref a1)] [(.int (0 : Int32))])) _
      exact retN X2 hx (t := .boolean) Bd.returns (by simp) (hb hby d9_17) hr
    · show Qy Z a1 lo hi h0 n0 _ T2.heap _
      rw [e2]
      exact ⟨⟨_, rfl, Or.inr ⟨rfl, c9⟩⟩, N0, rfl⟩
def Q0 (Z : State) (lo hi vv : Int64) (mode : Int32) (h0 : Heap) (n0 : Nat) (v : Option Value) (h : Heap) (L : List Loc) : Prop := v = some (.int (1 : Int32)) ∧ Fr n0 L
theorem pd_3 : parseMethodDescriptor "(J)Z" = some ⟨[.long], some .boolean⟩ := by decide +kernel
theorem pd_4 : parseMethodDescriptor "(J)Lcom/example/winnowpack/winnowpack/codec/Interval;" = some ⟨[.long], some (.object "com/example/winnowpack/winnowpack/codec/Interval")⟩ := by decide +kernel
theorem pd_5 : parseMethodDescriptor "(Lcom/example/winnowpack/winnowpack/codec/Interval;)Lcom/example/winnowpack/winnowpack/codec/Interval;" = some ⟨[(.object "com/example/winnowpack/winnowpack/codec/Interval")], some (.object "com/example/winnowpack/winnowpack/codec/Interval")⟩ := by decide +kernel
theorem pd_6 : parseMethodDescriptor "()Z" = some ⟨[], some .boolean⟩ := by decide +kernel
theorem ef_0 (m : MethodId) (lo : Int64) (hi : Int64) (vv : Int64) (mode : Int32) : entryFrame m #[(.long lo), (.long hi), (.long vv), (.int mode)] maxLocals = mkF m 0 #[.val (.long lo), .second, .val (.long hi), .second, .val (.long vv), .second, .val (.int mode), .unset, .unset, .unset, .unset, .unset, .unset, .unset, .unset] [] := by first | (simp [entryFrame, mkF, argsToLocals, Value.category, maxLocals]; done) | rfl
theorem pn_2 : plainName "com/example/winnowpack/winnowpack/codec/IntervalContainsPinLaw" = true := by first | (simp [plainName, overriddenIn]; done) | decide +kernel
set_option maxRecDepth 65536 in
set_option maxHeartbeats 40000000 in
theorem rm0 (l : Launch) (Z : State) (a0 : Array Value) (hw : ∀ d ∈ tables_1, d.before a0 Z = true) (ws : List Jvm.Cond) (lo : Int64) (hi : Int64) (vv : Int64) (mode : Int32)  (h0 : Heap) (n0 : Nat) (Z0 : n0 ≤ h0.size)  :
    MetFree l x (head1 (Jvm.Cond.code x code maxLocals ret :: ws) room_1) (fun a U => a = #[(.long lo), (.long hi), (.long vv), (.int mode)] ∧ Z.Warmed39 U.vm ∧ U.heap = h0) (fun _ _ _ _ _ => True) (fun _ U o U' => ∃ v L, o = .returned v ∧ Q0 Z lo hi vv mode h0 n0 v U'.heap L ∧ FrameEnd U o U' L room_1.cells room_1.slots) := by
  refine MetFree.of_bodySF (plainFor_of_name pn_2) hisR ?_
  intro p e s m args below meth c s₁ Bd hml0 hP hK
  obtain ⟨rfl, hZ, hh⟩ := hP
  have hx := Bd.exec
  have hby := Bd.bytes
  have hml : c.maxLocals = 15 := hml0
  have hown : s.vm.findClass "com/example/winnowpack/winnowpack/codec/IntervalContainsPinLaw" = some m.cls := findClass_of_methodNamed Bd.named
  have hnm := (name_of_methodNamed Bd.named Bd.method).1
  have X0 : Stand p l e room_1 s m #[(.long lo), (.long hi), (.long vv), (.int mode)] below meth c s₁ [] 0 0 := Stand.of_body Bd
  have e0 : s₁.heap = h0 := by rw [← hh, Bd.state]; rfl
  have N0 := Fr.nil n0
  have pre0 : ∀ t, Steps p.tables e below (s₁.setTop (mkF m 0 #[.val (.long lo), .second, .val (.long hi), .second, .val (.long vv), .second, .val (.int mode), .unset, .unset, .unset, .unset, .unset, .unset, .unset, .unset] [])) t → Steps p.tables e below (s₁.setTop (entryFrame m #[(.long lo), (.long hi), (.long vv), (.int mode)] maxLocals)) t := fun t k => castTop (ef_0 m lo hi vv mode) k
  have pre1 : ∀ t, Steps p.tables e below (s₁.setTop (mkF m 20 #[.val (.long lo), .second, .val (.long hi), .second, .val (.long vv), .second, .val (.int mode), .val (.int (mode &&& (3 : Int32))), .val (.long ((((mode >>> ((2 : Int32) &&& 31)) &&& (3 : Int32)) - (1 : Int32)).toInt64)), .second, .unset, .unset, .unset, .unset, .unset] [(.int (1 : Int32)), (.int (mode &&& (3 : Int32)))])) t → Steps p.tables e below (s₁.setTop (entryFrame m #[(.long lo), (.long hi), (.long vv), (.int mode)] maxLocals)) t := by
    intro t k
    refine pre0 t ?_
    show Steps p.tables e below (s₁.setTop (mkF m 0 #[.val (.long lo), .second, .val (.long hi), .second, .val (.long vv), .second, .val (.int mode), .unset, .unset, .unset, .unset, .unset, .unset, .unset, .unset] [])) _
    refine XS.iload X0.here hx rfl (hb hby at_0) rfl ?_
    show Steps p.tables e below (s₁.setTop (mkF m 2 #[.val (.long lo), .second, .val (.long hi), .second, .val (.long vv), .second, .val (.int mode), .unset, .unset, .unset, .unset, .unset, .unset, .unset, .unset] [(.int mode)])) _
    refine XS.iconst X0.here hx rfl (hb hby at_2) ?_
    show Steps p.tables e below (s₁.setTop (mkF m 3 #[.val (.long lo), .second, .val (.long hi), .second, .val (.long vv), .second, .val (.int mode), .unset, .unset, .unset, .unset, .unset, .unset, .unset, .unset] [(.int (3 : Int32)), (.int mode)])) _
    refine XS.iand X0.here hx rfl (hb hby at_3) rfl ?_
    show Steps p.tables e below (s₁.setTop (mkF m 4 #[.val (.long lo), .second, .val (.long hi), .second, .val (.long vv), .second, .val (.int mode), .unset, .unset, .unset, .unset, .unset, .unset, .unset, .unset] [(.int (mode &&& (3 : Int32)))])) _
    refine XS.istore X0.here hx rfl (hb hby at_4) rfl (l' := #[.val (.long lo), .second, .val (.long hi), .second, .val (.long vv), .second, .val (.int mode), .val (.int (mode &&& (3 : Int32))), .unset, .unset, .unset, .unset, .unset, .unset, .unset]) rfl ?_
    show Steps p.tables e below (s₁.setTop (mkF m 6 #[.val (.long lo), .second, .val (.long hi), .second, .val (.long vv), .second, .val (.int mode), .val (.int (mode &&& (3 : Int32))), .unset, .unset, .unset, .unset, .unset, .unset, .unset] [])) _
    refine XS.iload X0.here hx rfl (hb hby at_6) rfl ?_
    show Steps p.tables e below (s₁.setTop (mkF m 8 #[.val (.long lo), .second, .val (.long hi), .second, .val (.long vv), .second, .val (.int mode), .val (.int (mode &&& (3 : Int32))), .unset, .unset, .unset, .unset, .unset, .unset, .unset] [(.int mode)])) _
    refine XS.iconst X0.here hx rfl (hb hby at_8) ?_
    show Steps p.tables e below (s₁.setTop (mkF m 9 #[.val (.long lo), .second, .val (.long hi), .second, .val (.long vv), .second, .val (.int mode), .val (.int (mode &&& (3 : Int32))), .unset, .unset, .unset, .unset, .unset, .unset, .unset] [(.int (2 : Int32)), (.int mode)])) _
    refine XS.ishr X0.here hx rfl (hb hby at_9) rfl ?_
    show Steps p.tables e below (s₁.setTop (mkF m 10 #[.val (.long lo), .second, .val (.long hi), .second, .val (.long vv), .second, .val (.int mode), .val (.int (mode &&& (3 : Int32))), .unset, .unset, .unset, .unset, .unset, .unset, .unset] [(.int (mode >>> ((2 : Int32) &&& 31)))])) _
    refine XS.iconst X0.here hx rfl (hb hby at_10) ?_
    show Steps p.tables e below (s₁.setTop (mkF m 11 #[.val (.long lo), .second, .val (.long hi), .second, .val (.long vv), .second, .val (.int mode), .val (.int (mode &&& (3 : Int32))), .unset, .unset, .unset, .unset, .unset, .unset, .unset] [(.int (3 : Int32)), (.int (mode >>> ((2 : Int32) &&& 31)))])) _
    refine XS.iand X0.here hx rfl (hb hby at_11) rfl ?_
    show Steps p.tables e below (s₁.setTop (mkF m 12 #[.val (.long lo), .second, .val (.long hi), .second, .val (.long vv), .second, .val (.int mode), .val (.int (mode &&& (3 : Int32))), .unset, .unset, .unset, .unset, .unset, .unset, .unset] [(.int ((mode >>> ((2 : Int32) &&& 31)) &&& (3 : Int32)))])) _
    refine XS.iconst X0.here hx rfl (hb hby at_12) ?_
    show Steps p.tables e below (s₁.setTop (mkF m 13 #[.val (.long lo), .second, .val (.long hi), .second, .val (.long vv), .second, .val (.int mode), .val (.int (mode &&& (3 : Int32))), .unset, .unset, .unset, .unset, .unset, .unset, .unset] [(.int (1 : Int32)), (.int ((mode >>> ((2 : Int32) &&& 31)) &&& (3 : Int32)))])) _
    refine XS.isub X0.here hx rfl (hb hby at_13) rfl ?_
    show Steps p.tables e below (s₁.setTop (mkF m 14 #[.val (.long lo), .second, .val (.long hi), .second, .val (.long vv), .second, .val (.int mode), .val (.int (mode &&& (3 : Int32))), .unset, .unset, .unset, .unset, .unset, .unset, .unset] [(.int (((mode >>> ((2 : Int32) &&& 31)) &&& (3 : Int32)) - (1 : Int32)))])) _
    refine XS.i2l X0.here hx rfl (hb hby at_14) rfl ?_
    show Steps p.tables e below (s₁.setTop (mkF m 15 #[.val (.long lo), .second, .val (.long hi), .second, .val (.long vv), .second, .val (.int mode), .val (.int (mode &&& (3 : Int32))), .unset, .unset, .unset, .unset, .unset, .unset, .unset] [(.long ((((mode >>> ((2 : Int32) &&& 31)) &&& (3 : Int32)) - (1 : Int32)).toInt64))])) _
    refine XS.lstore X0.here hx rfl (hb hby at_15) rfl (l' := #[.val (.long lo), .second, .val (.long hi), .second, .val (.long vv), .second, .val (.int mode), .val (.int (mode &&& (3 : Int32))), .val (.long ((((mode >>> ((2 : Int32) &&& 31)) &&& (3 : Int32)) - (1 : Int32)).toInt64)), .second, .unset, .unset, .unset, .unset, .unset]) rfl ?_
    show Steps p.tables e below (s₁.setTop (mkF m 17 #[.val (.long lo), .second, .val (.long hi), .second, .val (.long vv), .second, .val (.int mode), .val (.int (mode &&& (3 : Int32))), .val (.long ((((mode >>> ((2 : Int32) &&& 31)) &&& (3 : Int32)) - (1 : Int32)).toInt64)), .second, .unset, .unset, .unset, .unset, .unset] [])) _
    refine XS.iload X0.here hx rfl (hb hby at_17) rfl ?_
    show Steps p.tables e below (s₁.setTop (mkF m 19 #[.val (.long lo), .second, .val (.long hi), .second, .val (.long vv), .second, .val (.int mode), .val (.int (mode &&& (3 : Int32))), .val (.long ((((mode >>> ((2 : Int32) &&& 31)) &&& (3 : Int32)) - (1 : Int32)).toInt64)), .second, .unset, .unset, .unset, .unset, .unset] [(.int (mode &&& (3 : Int32)))])) _
    refine XS.iconst X0.here hx rfl (hb hby at_19) ?_
    exact k
  obtain ⟨x, pre2⟩ : ∃ (x : Int64), ∀ t, Steps p.tables e below (s₁.setTop (mkF m 51 #[.val (.long lo), .second, .val (.long hi), .second, .val (.long vv), .second, .val (.int mode), .val (.int (mode &&& (3 : Int32))), .val (.long ((((mode >>> ((2 : Int32) &&& 31)) &&& (3 : Int32)) - (1 : Int32)).toInt64)), .second, .val (.long x), .second, .unset, .unset, .unset] [])) t → Steps p.tables e below (s₁.setTop (entryFrame m #[(.long lo), (.long hi), (.long vv), (.int mode)] maxLocals)) t := by
    by_cases c20 : (mode &&& (3 : Int32)) = (1 : Int32)
    · refine ⟨(lo + ((((mode >>> ((2 : Int32) &&& 31)) &&& (3 : Int32)) - (1 : Int32)).toInt64)), fun t k => pre1 t ?_⟩
      show Steps p.tables e below (s₁.setTop (mkF m 20 #[.val (.long lo), .second, .val (.long hi), .second, .val (.long vv), .second, .val (.int mode), .val (.int (mode &&& (3 : Int32))), .val (.long ((((mode >>> ((2 : Int32) &&& 31)) &&& (3 : Int32)) - (1 : Int32)).toInt64)), .second, .unset, .unset, .unset, .unset, .unset] [(.int (1 : Int32)), (.int (mode &&& (3 : Int32)))])) _
      refine XS.icmpNo X0.here hx rfl (hb hby at_20) rfl (teq c20).2 ?_
      show Steps p.tables e below (s₁.setTop (mkF m 23 #[.val (.long lo), .second, .val (.long hi), .second, .val (.long vv), .second, .val (.int mode), .val (.int (mode &&& (3 : Int32))), .val (.long ((((mode >>> ((2 : Int32) &&& 31)) &&& (3 : Int32)) - (1 : Int32)).toInt64)), .second, .unset, .unset, .unset, .unset, .unset] [])) _
      refine XS.lloadN X0.here hx rfl (hb hby at_23) rfl ?_
      show Steps p.tables e below (s₁.setTop (mkF m 24 #[.val (.long lo), .second, .val (.long hi), .second, .val (.long vv), .second, .val (.int mode), .val (.int (mode &&& (3 : Int32))), .val (.long ((((mode >>> ((2 : Int32) &&& 31)) &&& (3 : Int32)) - (1 : Int32)).toInt64)), .second, .unset, .unset, .unset, .unset, .unset] [(.long lo)])) _
      refine XS.lload X0.here hx rfl (hb hby at_24) rfl ?_
      show Steps p.tables e below (s₁.setTop (mkF m 26 #[.val (.long lo), .second, .val (.long hi), .second, .val (.long vv), .second, .val (.int mode), .val (.int (mode &&& (3 : Int32))), .val (.long ((((mode >>> ((2 : Int32) &&& 31)) &&& (3 : Int32)) - (1 : Int32)).toInt64)), .second, .unset, .unset, .unset, .unset, .unset] [(.long ((((mode >>> ((2 : Int32) &&& 31)) &&& (3 : Int32)) - (1 : Int32)).toInt64)), (.long lo)])) _
      refine XS.ladd X0.here hx rfl (hb hby at_26) rfl ?_
      show Steps p.tables e below (s₁.setTop (mkF m 27 #[.val (.long lo), .second, .val (.long hi), .second, .val (.long vv), .second, .val (.int mode), .val (.int (mode &&& (3 : Int32))), .val (.long ((((mode >>> ((2 : Int32) &&& 31)) &&& (3 : Int32)) - (1 : Int32)).toInt64)), .second, .unset, .unset, .unset, .unset, .unset] [(.long (lo + ((((mode >>> ((2 : Int32) &&& 31)) &&& (3 : Int32)) - (1 : Int32)).toInt64)))])) _
      refine XS.lstore X0.here hx rfl (hb hby at_27) rfl (l' := #[.val (.long lo), .second, .val (.long hi), .second, .val (.long vv), .second, .val (.int mode), .val (.int (mode &&& (3 : Int32))), .val (.long ((((mode >>> ((2 : Int32) &&& 31)) &&& (3 : Int32)) - (1 : Int32)).toInt64)), .second, .val (.long (lo + ((((mode >>> ((2 : Int32) &&& 31)) &&& (3 : Int32)) - (1 : Int32)).toInt64))), .second, .unset, .unset, .unset]) rfl ?_
      show Steps p.tables e below (s₁.setTop (mkF m 29 #[.val (.long lo), .second, .val (.long hi), .second, .val (.long vv), .second, .val (.int mode), .val (.int (mode &&& (3 : Int32))), .val (.long ((((mode >>> ((2 : Int32) &&& 31)) &&& (3 : Int32)) - (1 : Int32)).toInt64)), .second, .val (.long (lo + ((((mode >>> ((2 : Int32) &&& 31)) &&& (3 : Int32)) - (1 : Int32)).toInt64))), .second, .unset, .unset, .unset] [])) _
      refine XS.goto X0.here hx rfl (pc0 := 29) (pc' := 51) rfl (hb hby at_29) (by decide) (by decide) ?_
      exact k
    · by_cases c35 : (mode &&& (3 : Int32)) = (2 : Int32)
      · refine ⟨(hi + ((((mode >>> ((2 : Int32) &&& 31)) &&& (3 : Int32)) - (1 : Int32)).toInt64)), fun t k => pre1 t ?_⟩
        show Steps p.tables e below (s₁.setTop (mkF m 20 #[.val (.long lo), .second, .val (.long hi), .second, .val (.long vv), .second, .val (.int mode), .val (.int (mode &&& (3 : Int32))), .val (.long ((((mode >>> ((2 : Int32) &&& 31)) &&& (3 : Int32)) - (1 : Int32)).toInt64)), .second, .unset, .unset, .unset, .unset, .unset] [(.int (1 : Int32)), (.int (mode &&& (3 : Int32)))])) _
        refine XS.icmpYes X0.here hx rfl (pc0 := 20) (pc' := 32) rfl (hb hby at_20) rfl (feq c20).2 (by decide) (by decide) ?_
        show Steps p.tables e below (s₁.setTop (mkF m 32 #[.val (.long lo), .second, .val (.long hi), .second, .val (.long vv), .second, .val (.int mode), .val (.int (mode &&& (3 : Int32))), .val (.long ((((mode >>> ((2 : Int32) &&& 31)) &&& (3 : Int32)) - (1 : Int32)).toInt64)), .second, .unset, .unset, .unset, .unset, .unset] [])) _
        refine XS.iload X0.here hx rfl (hb hby at_32) rfl ?_
        show Steps p.tables e below (s₁.setTop (mkF m 34 #[.val (.long lo), .second, .val (.long hi), .second, .val (.long vv), .second, .val (.int mode), .val (.int (mode &&& (3 : Int32))), .val (.long ((((mode >>> ((2 : Int32) &&& 31)) &&& (3 : Int32)) - (1 : Int32)).toInt64)), .second, .unset, .unset, .unset, .unset, .unset] [(.int (mode &&& (3 : Int32)))])) _
        refine XS.iconst X0.here hx rfl (hb hby at_34) ?_
        show Steps p.tables e below (s₁.setTop (mkF m 35 #[.val (.long lo), .second, .val (.long hi), .second, .val (.long vv), .second, .val (.int mode), .val (.int (mode &&& (3 : Int32))), .val (.long ((((mode >>> ((2 : Int32) &&& 31)) &&& (3 : Int32)) - (1 : Int32)).toInt64)), .second, .unset, .unset, .unset, .unset, .unset] [(.int (2 : Int32)), (.int (mode &&& (3 : Int32)))])) _
        refine XS.icmpNo X0.here hx rfl (hb hby at_35) rfl (teq c35).2 ?_
        show Steps p.tables e below (s₁.setTop (mkF m 38 #[.val (.long lo), .second, .val (.long hi), .second, .val (.long vv), .second, .val (.int mode), .val (.int (mode &&& (3 : Int32))), .val (.long ((((mode >>> ((2 : Int32) &&& 31)) &&& (3 : Int32)) - (1 : Int32)).toInt64)), .second, .unset, .unset, .unset, .unset, .unset] [])) _
        refine XS.lloadN X0.here hx rfl (hb hby at_38) rfl ?_
        show Steps p.tables e below (s₁.setTop (mkF m 39 #[.val (.long lo), .second, .val (.long hi), .second, .val (.long vv), .second, .val (.int mode), .val (.int (mode &&& (3 : Int32))), .val (.long ((((mode >>> ((2 : Int32) &&& 31)) &&& (3 : Int32)) - (1 : Int32)).toInt64)), .second, .unset, .unset, .unset, .unset, .unset] [(.long hi)])) _
        refine XS.lload X0.here hx rfl (hb hby at_39) rfl ?_
        show Steps p.tables e below (s₁.setTop (mkF m 41 #[.val (.long lo), .second, .val (.long hi), .second, .val (.long vv), .second, .val (.int mode), .val (.int (mode &&& (3 : Int32))), .val (.long ((((mode >>> ((2 : Int32) &&& 31)) &&& (3 : Int32)) - (1 : Int32)).toInt64)), .second, .unset, .unset, .unset, .unset, .unset] [(.long ((((mode >>> ((2 : Int32) &&& 31)) &&& (3 : Int32)) - (1 : Int32)).toInt64)), (.long hi)])) _
        refine XS.ladd X0.here hx rfl (hb hby at_41) rfl ?_
        show Steps p.tables e below (s₁.setTop (mkF m 42 #[.val (.long lo), .second, .val (.long hi), .second, .val (.long vv), .second, .val (.int mode), .val (.int (mode &&& (3 : Int32))), .val (.long ((((mode >>> ((2 : Int32) &&& 31)) &&& (3 : Int32)) - (1 : Int32)).toInt64)), .second, .unset, .unset, .unset, .unset, .unset] [(.long (hi + ((((mode >>> ((2 : Int32) &&& 31)) &&& (3 : Int32)) - (1 : Int32)).toInt64)))])) _
        refine XS.lstore X0.here hx rfl (hb hby at_42) rfl (l' := #[.val (.long lo), .second, .val (.long hi), .second, .val (.long vv), .second, .val (.int mode), .val (.int (mode &&& (3 : Int32))), .val (.long ((((mode >>> ((2 : Int32) &&& 31)) &&& (3 : Int32)) - (1 : Int32)).toInt64)), .second, .val (.long (hi + ((((mode >>> ((2 : Int32) &&& 31)) &&& (3 : Int32)) - (1 : Int32)).toInt64))), .second, .unset, .unset, .unset]) rfl ?_
        show Steps p.tables e below (s₁.setTop (mkF m 44 #[.val (.long lo), .second, .val (.long hi), .second, .val (.long vv), .second, .val (.int mode), .val (.int (mode &&& (3 : Int32))), .val (.long ((((mode >>> ((2 : Int32) &&& 31)) &&& (3 : Int32)) - (1 : Int32)).toInt64)), .second, .val (.long (hi + ((((mode >>> ((2 : Int32) &&& 31)) &&& (3 : Int32)) - (1 : Int32)).toInt64))), .second, .unset, .unset, .unset] [])) _
        refine XS.goto X0.here hx rfl (pc0 := 44) (pc' := 51) rfl (hb hby at_44) (by decide) (by decide) ?_
        exact k
      · refine ⟨vv, fun t k => pre1 t ?_⟩
        show Steps p.tables e below (s₁.setTop (mkF m 20 #[.val (.long lo), .second, .val (.long hi), .second, .val (.long vv), .second, .val (.int mode), .val (.int (mode &&& (3 : Int32))), .val (.long ((((mode >>> ((2 : Int32) &&& 31)) &&& (3 : Int32)) - (1 : Int32)).toInt64)), .second, .unset, .unset, .unset, .unset, .unset] [(.int (1 : Int32)), (.int (mode &&& (3 : Int32)))])) _
        refine XS.icmpYes X0.here hx rfl (pc0 := 20) (pc' := 32) rfl (hb hby at_20) rfl (feq c20).2 (by decide) (by decide) ?_
        show Steps p.tables e below (s₁.setTop (mkF m 32 #[.val (.long lo), .second, .val (.long hi), .second, .val (.long vv), .second, .val (.int mode), .val (.int (mode &&& (3 : Int32))), .val (.long ((((mode >>> ((2 : Int32) &&& 31)) &&& (3 : Int32)) - (1 : Int32)).toInt64)), .second, .unset, .unset, .unset, .unset, .unset] [])) _
        refine XS.iload X0.here hx rfl (hb hby at_32) rfl ?_
        show Steps p.tables e below (s₁.setTop (mkF m 34 #[.val (.long lo), .second, .val (.long hi), .second, .val (.long vv), .second, .val (.int mode), .val (.int (mode &&& (3 : Int32))), .val (.long ((((mode >>> ((2 : Int32) &&& 31)) &&& (3 : Int32)) - (1 : Int32)).toInt64)), .second, .unset, .unset, .unset, .unset, .unset] [(.int (mode &&& (3 : Int32)))])) _
        refine XS.iconst X0.here hx rfl (hb hby at_34) ?_
        show Steps p.tables e below (s₁.setTop (mkF m 35 #[.val (.long lo), .second, .val (.long hi), .second, .val (.long vv), .second, .val (.int mode), .val (.int (mode &&& (3 : Int32))), .val (.long ((((mode >>> ((2 : Int32) &&& 31)) &&& (3 : Int32)) - (1 : Int32)).toInt64)), .second, .unset, .unset, .unset, .unset, .unset] [(.int (2 : Int32)), (.int (mode &&& (3 : Int32)))])) _
        refine XS.icmpYes X0.here hx rfl (pc0 := 35) (pc' := 47) rfl (hb hby at_35) rfl (feq c35).2 (by decide) (by decide) ?_
        show Steps p.tables e below (s₁.setTop (mkF m 47 #[.val (.long lo), .second, .val (.long hi), .second, .val (.long vv), .second, .val (.int mode), .val (.int (mode &&& (3 : Int32))), .val (.long ((((mode >>> ((2 : Int32) &&& 31)) &&& (3 : Int32)) - (1 : Int32)).toInt64)), .second, .unset, .unset, .unset, .unset, .unset] [])) _
        refine XS.lload X0.here hx rfl (hb hby at_47) rfl ?_
        show Steps p.tables e below (s₁.setTop (mkF m 49 #[.val (.long lo), .second, .val (.long hi), .second, .val (.long vv), .second, .val (.int mode), .val (.int (mode &&& (3 : Int32))), .val (.long ((((mode >>> ((2 : Int32) &&& 31)) &&& (3 : Int32)) - (1 : Int32)).toInt64)), .second, .unset, .unset, .unset, .unset, .unset] [(.long vv)])) _
        refine XS.lstore X0.here hx rfl (hb hby at_49) rfl (l' := #[.val (.long lo), .second, .val (.long hi), .second, .val (.long vv), .second, .val (.int mode), .val (.int (mode &&& (3 : Int32))), .val (.long ((((mode >>> ((2 : Int32) &&& 31)) &&& (3 : Int32)) - (1 : Int32)).toInt64)), .second, .val (.long vv), .second, .unset, .unset, .unset]) rfl ?_
        exact k
  obtain ⟨T3, h3, X3, e3, E3, A3, D3, -, st3⟩ := newO X0 hx hZ hown (hw _ (List.mem_of_getElem? (i := 0) rfl)) (hw _ (List.mem_of_getElem? (i := 1) rfl)) (hw _ (List.mem_of_getElem? (i := 2) rfl)) e0 (g := (mkF m 51 #[.val (.long lo), .second, .val (.long hi), .second, .val (.long vv), .second, .val (.int mode), .val (.int (mode &&& (3 : Int32))), .val (.long ((((mode >>> ((2 : Int32) &&& 31)) &&& (3 : Int32)) - (1 : Int32)).toInt64)), .second, .val (.long x), .second, .unset, .unset, .unset] [])) rfl (hb hby at_51) (by decide) (by decide)
  obtain ⟨b3, g3⟩ : ∃ z, z = h0.size := ⟨_, rfl⟩
  rw [← g3] at A3 D3 st3
  have F_low_b3 : Fld Z h3 b3 "com/example/winnowpack/winnowpack/codec/Interval" "low" "J" (.long (0 : Int64)) := D3 (Or.inr (hw _ (List.mem_of_getElem? (i := 15) rfl))) (ty := .long) (by decide)
  have F_high_b3 : Fld Z h3 b3 "com/example/winnowpack/winnowpack/codec/Interval" "high" "J" (.long (0 : Int64)) := D3 (Or.inr (hw _ (List.mem_of_getElem? (i := 17) rfl))) (ty := .long) (by decide)
  have E_b3 := A3
  have Zn : n0 ≤ h3.size := Nat.le_trans Z0 E3.1
  have gb : n0 ≤ b3 := Nat.le_trans Z0 (Nat.le_of_eq g3.symm)
  have gs : h0.size ≤ b3 := Nat.le_of_eq g3.symm
  obtain ⟨_, _, ⟨T4, L4, k4, n4⟩, -, X4, ⟨Lc4, hQ4, l4, y4, z4⟩, st4⟩ := X3.specialBack hx (y := (⟨"com/example/winnowpack/winnowpack/codec/Interval", "<init>", "(JJ)V"⟩ : MethodName)) rfl hown (mvT hZ (hw _ (List.mem_of_getElem? (i := 3) rfl))) (mvT hZ (hw _ (List.mem_of_getElem? (i := 4) rfl))) (mvT hZ (hw _ (List.mem_of_getElem? (i := 5) rfl))) (by decide) (backOf (W := 1) (rmI l Z a0 hw [] b3 lo hi (.long (0 : Int64)) (.long (0 : Int64)) h3 n0 Zn E_b3 F_low_b3 F_high_b3 gb) hZ (hw _ (List.mem_of_getElem? (i := 5) rfl)) (hw _ (List.mem_of_getElem? (i := 2) rfl)) (by decide) (by decide)) (g := (mkF m 57 #[.val (.long lo), .second, .val (.long hi), .second, .val (.long vv), .second, .val (.int mode), .val (.int (mode &&& (3 : Int32))), .val (.long ((((mode >>> ((2 : Int32) &&& 31)) &&& (3 : Int32)) - (1 : Int32)).toInt64)), .second, .val (.long x), .second, .unset, .unset, .unset] [(.long hi), (.long lo), (.ref b3), (.ref b3)])) rfl (by rw [hml]; rfl) (Steps.refl _) (a := b3) (argsL := [(.long lo), (.long hi)]) (rest := [(.ref b3)]) (lenOf pd_1 rfl) rfl (by show 2 * 0 + _ ≤ _; exact Nat.le_of_eq rfl) (hb hby at_57) (fun _ _ => ⟨rfl, e3, (by decide : 1 + 0 ≤ _), (by decide : 2 + 0 ≤ _)⟩)
  dsimp only [Pt.U, Pt.locs, Pt.cells, Pt.slots] at X4 l4 y4 z4 st4 hQ4
  subst l4 y4 z4
  obtain ⟨rfl, N4q, K1, E1, F1, F2⟩ := hQ4
  have N4 := Fr.app N0 N4q
  have Z1 : n0 ≤ T4.heap.size := Nat.le_trans Zn K1.1
  obtain ⟨cq5, kq5, q5a, q5b, q5c⟩ := isOf hZ rfl E1
  obtain ⟨_, _, ⟨T5, L5, k5, n5⟩, -, X5, ⟨Lc5, hQ5, l5, y5, z5⟩, st5⟩ := X4.virtualBack hx (y := (⟨"com/example/winnowpack/winnowpack/codec/Interval", "contains", "(J)Z"⟩ : MethodName)) (z := (⟨"com/example/winnowpack/winnowpack/codec/Interval", "contains", "(J)Z"⟩ : MethodName)) hown (mvT hZ (hw _ (List.mem_of_getElem? (i := 18) rfl))) (mvT hZ (hw _ (List.mem_of_getElem? (i := 19) rfl))) (notFace_of_selects (args := #[]) (mvT hZ (hw _ (List.mem_of_getElem? (i := 21) rfl)))) (mvT hZ (hw _ (List.mem_of_getElem? (i := 21) rfl))) (mvT hZ (hw _ (List.mem_of_getElem? (i := 20) rfl))) (by decide) (backOf (W := 0) (rmC l Z a0 hw [] b3 x lo hi T4.heap n0 Z1 F1 F2) hZ (hw _ (List.mem_of_getElem? (i := 22) rfl)) (hw _ (List.mem_of_getElem? (i := 2) rfl)) (by decide) (by decide)) q5a q5c (g := (mkF m 66 #[.val (.long lo), .second, .val (.long hi), .second, .val (.long vv), .second, .val (.int mode), .val (.int (mode &&& (3 : Int32))), .val (.long ((((mode >>> ((2 : Int32) &&& 31)) &&& (3 : Int32)) - (1 : Int32)).toInt64)), .second, .val (.long x), .second, .val (.ref b3), .unset, .unset] [(.long x), (.ref b3)])) rfl (by rw [hml]; rfl) (Steps.refl _) (argsL := [(.long x)]) (rest := []) (lenOf pd_3 rfl) rfl (by show 2 * 0 + _ ≤ _; exact Nat.le_of_eq rfl) (hb hby at_66) (fun _ _ => ⟨rfl, rfl, (by decide : 1 + 0 ≤ _), (by decide : 2 + 0 ≤ _)⟩)
  dsimp only [Pt.U, Pt.locs, Pt.cells, Pt.slots] at X5 l5 y5 z5 st5 hQ5
  subst l5 y5 z5
  obtain ⟨⟨rC, rfl, hC⟩, N5q, e5⟩ := hQ5
  have N5 := Fr.app N4 N5q
  obtain ⟨_, _, ⟨T6, L6, k6, n6⟩, -, X6, ⟨Lc6, hQ6, l6, y6, z6⟩, st6⟩ := Jvm.LawKit.callS X5 hx (y := (⟨"com/example/winnowpack/winnowpack/codec/Interval", "equalTo", "(J)Lcom/example/winnowpack/winnowpack/codec/Interval;"⟩ : MethodName)) hown (mvT hZ (hw _ (List.mem_of_getElem? (i := 23) rfl))) (mvT hZ (hw _ (List.mem_of_getElem? (i := 24) rfl))) (mvT hZ (hw _ (List.mem_of_getElem? (i := 2) rfl))) (mvT hZ (hw _ (List.mem_of_getElem? (i := 25) rfl))) (by decide) (backOf (W := 1) (rmE l Z a0 hw [] x T4.heap n0 Z1) hZ (hw _ (List.mem_of_getElem? (i := 25) rfl)) (hw _ (List.mem_of_getElem? (i := 2) rfl)) (by decide) (by decide)) (g := (mkF m 75 #[.val (.long lo), .second, .val (.long hi), .second, .val (.long vv), .second, .val (.int mode), .val (.int (mode &&& (3 : Int32))), .val (.long ((((mode >>> ((2 : Int32) &&& 31)) &&& (3 : Int32)) - (1 : Int32)).toInt64)), .second, .val (.long x), .second, .val (.ref b3), .val (.int rC), .unset] [(.long x), (.ref b3)])) rfl (by rw [hml]; rfl) (argsL := [(.long x)]) (rest := [(.ref b3)]) (lenOf pd_4 rfl) rfl (by show 2 * 0 + _ ≤ _; exact Nat.le_of_eq rfl) (hb hby at_75) (fun _ _ => ⟨rfl, e5, (by decide : 1 + 1 ≤ _), (by decide : 2 + 2 ≤ _)⟩)
  dsimp only [Pt.U, Pt.locs, Pt.cells, Pt.slots] at X6 l6 y6 z6 st6 hQ6
  subst l6 y6 z6
  obtain ⟨⟨bq2, rfl, E2, G1, G2⟩, N6q, K2⟩ := hQ6
  have N6 := Fr.app N5 N6q
  have Z2 : n0 ≤ T6.heap.size := Nat.le_trans Z1 K2.1
  obtain ⟨cq7, kq7, q7a, q7b, q7c⟩ := isOf hZ rfl (E1.keep K2)
  obtain ⟨_, _, ⟨T7, L7, k7, n7⟩, -, X7, ⟨Lc7, hQ7, l7, y7, z7⟩, st7⟩ := X6.virtualBack hx (y := (⟨"com/example/winnowpack/winnowpack/codec/Interval", "and", "(Lcom/example/winnowpack/winnowpack/codec/Interval;)Lcom/example/winnowpack/winnowpack/codec/Interval;"⟩ : MethodName)) (z := (⟨"com/example/winnowpack/winnowpack/codec/Interval", "and", "(Lcom/example/winnowpack/winnowpack/codec/Interval;)Lcom/example/winnowpack/winnowpack/codec/Interval;"⟩ : MethodName)) hown (mvT hZ (hw _ (List.mem_of_getElem? (i := 28) rfl))) (mvT hZ (hw _ (List.mem_of_getElem? (i := 29) rfl))) (notFace_of_selects (args := #[]) (mvT hZ (hw _ (List.mem_of_getElem? (i := 31) rfl)))) (mvT hZ (hw _ (List.mem_of_getElem? (i := 31) rfl))) (mvT hZ (hw _ (List.mem_of_getElem? (i := 30) rfl))) (by decide) (backOf (W := 0) (rmA l Z a0 hw [] b3 bq2 lo hi x x T6.heap n0 Z2 (F1.keep K2 nin0) (F2.keep K2 nin0) G1 G2) hZ (hw _ (List.mem_of_getElem? (i := 32) rfl)) (hw _ (List.mem_of_getElem? (i := 2) rfl)) (by decide) (by decide)) q7a q7c (g := (mkF m 78 #[.val (.long lo), .second, .val (.long hi), .second, .val (.long vv), .second, .val (.int mode), .val (.int (mode &&& (3 : Int32))), .val (.long ((((mode >>> ((2 : Int32) &&& 31)) &&& (3 : Int32)) - (1 : Int32)).toInt64)), .second, .val (.long x), .second, .val (.ref b3), .val (.int rC), .unset] [(.ref bq2), (.ref b3)])) rfl (by rw [hml]; rfl) (Steps.refl _) (argsL := [(.ref bq2)]) (rest := []) (lenOf pd_5 rfl) rfl (by show 2 * 0 + _ ≤ _; exact Nat.le_of_eq rfl) (hb hby at_78) (fun _ _ => ⟨rfl, rfl, (by decide : 2 + 1 ≤ _), (by decide : 4 + 2 ≤ _)⟩)
  dsimp only [Pt.U, Pt.locs, Pt.cells, Pt.slots] at X7 l7 y7 z7 st7 hQ7
  subst l7 y7 z7
  obtain ⟨⟨bq3, lq3, hq3, rfl, hl3, hh3, E3, R1, R2⟩, N7q, K3⟩ := hQ7
  have N7 := Fr.app N6 N7q
  have Z3 : n0 ≤ T7.heap.size := Nat.le_trans Z2 K3.1
  obtain ⟨cq8, kq8, q8a, q8b, q8c⟩ := isOf hZ rfl E3
  obtain ⟨_, _, ⟨T8, L8, k8, n8⟩, -, X8, ⟨Lc8, hQ8, l8, y8, z8⟩, st8⟩ := X7.virtualBack hx (y := (⟨"com/example/winnowpack/winnowpack/codec/Interval", "isEmpty", "()Z"⟩ : MethodName)) (z := (⟨"com/example/winnowpack/winnowpack/codec/Interval", "isEmpty", "()Z"⟩ : MethodName)) hown (mvT hZ (hw _ (List.mem_of_getElem? (i := 40) rfl))) (mvT hZ (hw _ (List.mem_of_getElem? (i := 41) rfl))) (notFace_of_selects (args := #[]) (mvT hZ (hw _ (List.mem_of_getElem? (i := 43) rfl)))) (mvT hZ (hw _ (List.mem_of_getElem? (i := 43) rfl))) (mvT hZ (hw _ (List.mem_of_getElem? (i := 42) rfl))) (by decide) (backOf (W := 1) (rmY l Z a0 hw [] bq3 lq3 hq3 T7.heap n0 Z3 R1 R2) hZ (hw _ (List.mem_of_getElem? (i := 44) rfl)) (hw _ (List.mem_of_getElem? (i := 2) rfl)) (by decide) (by decide)) q8a q8c (g := (mkF m 87 #[.val (.long lo), .second, .val (.long hi), .second, .val (.long vv), .second, .val (.int mode), .val (.int (mode &&& (3 : Int32))), .val (.long ((((mode >>> ((2 : Int32) &&& 31)) &&& (3 : Int32)) - (1 : Int32)).toInt64)), .second, .val (.long x), .second, .val (.ref b3), .val (.int rC), .val (.ref bq3)] [(.ref bq3), (.int rC)])) rfl (by rw [hml]; rfl) (Steps.refl _) (argsL := []) (rest := [(.int rC)]) (lenOf pd_6 rfl) rfl (by show 2 * 0 + _ ≤ _; exact Nat.le_of_eq rfl) (hb hby at_87) (fun _ _ => ⟨rfl, rfl, (by decide : 3 + 0 ≤ _), (by decide : 6 + 0 ≤ _)⟩)
  dsimp only [Pt.U, Pt.locs, Pt.cells, Pt.slots] at X8 l8 y8 z8 st8 hQ8
  subst l8 y8 z8
  obtain ⟨⟨rE, rfl, hE⟩, N8q, e8⟩ := hQ8
  have N8 := Fr.app N7 N8q
  obtain ⟨p1, p0⟩ := own_emp lo hi x lq3 hq3 rC rE hC hl3 hh3 hE
  have pre9 : ∀ t, Steps p.tables e below (T8.setTop (mkF m 90 #[.val (.long lo), .second, .val (.long hi), .second, .val (.long vv), .second, .val (.int mode), .val (.int (mode &&& (3 : Int32))), .val (.long ((((mode >>> ((2 : Int32) &&& 31)) &&& (3 : Int32)) - (1 : Int32)).toInt64)), .second, .val (.long x), .second, .val (.ref b3), .val (.int rC), .val (.ref bq3)] [(.int rE), (.int rC)])) t → Steps p.tables e below (s₁.setTop (entryFrame m #[(.long lo), (.long hi), (.long vv), (.int mode)] maxLocals)) t := by
    intro t k
    refine pre2 t ?_
    show Steps p.tables e below (s₁.setTop (mkF m 51 #[.val (.long lo), .second, .val (.long hi), .second, .val (.long vv), .second, .val (.int mode), .val (.int (mode &&& (3 : Int32))), .val (.long ((((mode >>> ((2 : Int32) &&& 31)) &&& (3 : Int32)) - (1 : Int32)).toInt64)), .second, .val (.long x), .second, .unset, .unset, .unset] [])) _
    refine st3 _ ?_
    show Steps p.tables e below (T3.setTop (mkF m 54 #[.val (.long lo), .second, .val (.long hi), .second, .val (.long vv), .second, .val (.int mode), .val (.int (mode &&& (3 : Int32))), .val (.long ((((mode >>> ((2 : Int32) &&& 31)) &&& (3 : Int32)) - (1 : Int32)).toInt64)), .second, .val (.long x), .second, .unset, .unset, .unset] [(.ref b3)])) _
    refine XS.dup X3.here hx rfl (hb hby at_54) rfl rfl ?_
    show Steps p.tables e below (T3.setTop (mkF m 55 #[.val (.long lo), .second, .val (.long hi), .second, .val (.long vv), .second, .val (.int mode), .val (.int (mode &&& (3 : Int32))), .val (.long ((((mode >>> ((2 : Int32) &&& 31)) &&& (3 : Int32)) - (1 : Int32)).toInt64)), .second, .val (.long x), .second, .unset, .unset, .unset] [(.ref b3), (.ref b3)])) _
    refine XS.lloadN X3.here hx rfl (hb hby at_55) rfl ?_
    show Steps p.tables e below (T3.setTop (mkF m 56 #[.val (.long lo), .second, .val (.long hi), .second, .val (.long vv), .second, .val (.int mode), .val (.int (mode &&& (3 : Int32))), .val (.long ((((mode >>> ((2 : Int32) &&& 31)) &&& (3 : Int32)) - (1 : Int32)).toInt64)), .second, .val (.long x), .second, .unset, .unset, .unset] [(.long lo), (.ref b3), (.ref b3)])) _
    refine XS.lloadN X3.here hx rfl (hb hby at_56) rfl ?_
    show Steps p.tables e below (T3.setTop (mkF m 57 #[.val (.long lo), .second, .val (.long hi), .second, .val (.long vv), .second, .val (.int mode), .val (.int (mode &&& (3 : Int32))), .val (.long ((((mode >>> ((2 : Int32) &&& 31)) &&& (3 : Int32)) - (1 : Int32)).toInt64)), .second, .val (.long x), .second, .unset, .unset, .unset] [(.long hi), (.long lo), (.ref b3), (.ref b3)])) _
    refine st4.trans ?_
    show Steps p.tables e below (T4.setTop (mkF m 60 #[.val (.long lo), .second, .val (.long hi), .second, .val (.long vv), .second, .val (.int mode), .val (.int (mode &&& (3 : Int32))), .val (.long ((((mode >>> ((2 : Int32) &&& 31)) &&& (3 : Int32)) - (1 : Int32)).toInt64)), .second, .val (.long x), .second, .unset, .unset, .unset] [(.ref b3)])) _
    refine XS.astore X4.here hx rfl (hb hby at_60) rfl rfl (l' := #[.val (.long lo), .second, .val (.long hi), .second, .val (.long vv), .second, .val (.int mode), .val (.int (mode &&& (3 : Int32))), .val (.long ((((mode >>> ((2 : Int32) &&& 31)) &&& (3 : Int32)) - (1 : Int32)).toInt64)), .second, .val (.long x), .second, .val (.ref b3), .unset, .unset]) rfl ?_
    show Steps p.tables e below (T4.setTop (mkF m 62 #[.val (.long lo), .second, .val (.long hi), .second, .val (.long vv), .second, .val (.int mode), .val (.int (mode &&& (3 : Int32))), .val (.long ((((mode >>> ((2 : Int32) &&& 31)) &&& (3 : Int32)) - (1 : Int32)).toInt64)), .second, .val (.long x), .second, .val (.ref b3), .unset, .unset] [])) _
    refine XS.aload X4.here hx rfl (hb hby at_62) rfl rfl ?_
    show Steps p.tables e below (T4.setTop (mkF m 64 #[.val (.long lo), .second, .val (.long hi), .second, .val (.long vv), .second, .val (.int mode), .val (.int (mode &&& (3 : Int32))), .val (.long ((((mode >>> ((2 : Int32) &&& 31)) &&& (3 : Int32)) - (1 : Int32)).toInt64)), .second, .val (.long x), .second, .val (.ref b3), .unset, .unset] [(.ref b3)])) _
    refine XS.lload X4.here hx rfl (hb hby at_64) rfl ?_
    show Steps p.tables e below (T4.setTop (mkF m 66 #[.val (.long lo), .second, .val (.long hi), .second, .val (.long vv), .second, .val (.int mode), .val (.int (mode &&& (3 : Int32))), .val (.long ((((mode >>> ((2 : Int32) &&& 31)) &&& (3 : Int32)) - (1 : Int32)).toInt64)), .second, .val (.long x), .second, .val (.ref b3), .unset, .unset] [(.long x), (.ref b3)])) _
    refine st5.trans ?_
    show Steps p.tables e below (T5.setTop (mkF m 69 #[.val (.long lo), .second, .val (.long hi), .second, .val (.long vv), .second, .val (.int mode), .val (.int (mode &&& (3 : Int32))), .val (.long ((((mode >>> ((2 : Int32) &&& 31)) &&& (3 : Int32)) - (1 : Int32)).toInt64)), .second, .val (.long x), .second, .val (.ref b3), .unset, .unset] [(.int rC)])) _
    refine XS.istore X5.here hx rfl (hb hby at_69) rfl (l' := #[.val (.long lo), .second, .val (.long hi), .second, .val (.long vv), .second, .val (.int mode), .val (.int (mode &&& (3 : Int32))), .val (.long ((((mode >>> ((2 : Int32) &&& 31)) &&& (3 : Int32)) - (1 : Int32)).toInt64)), .second, .val (.long x), .second, .val (.ref b3), .val (.int rC), .unset]) rfl ?_
    show Steps p.tables e below (T5.setTop (mkF m 71 #[.val (.long lo), .second, .val (.long hi), .second, .val (.long vv), .second, .val (.int mode), .val (.int (mode &&& (3 : Int32))), .val (.long ((((mode >>> ((2 : Int32) &&& 31)) &&& (3 : Int32)) - (1 : Int32)).toInt64)), .second, .val (.long x), .second, .val (.ref b3), .val (.int rC), .unset] [])) _
    refine XS.aload X5.here hx rfl (hb hby at_71) rfl rfl ?_
    show Steps p.tables e below (T5.setTop (mkF m 73 #[.val (.long lo), .second, .val (.long hi), .second, .val (.long vv), .second, .val (.int mode), .val (.int (mode &&& (3 : Int32))), .val (.long ((((mode >>> ((2 : Int32) &&& 31)) &&& (3 : Int32)) - (1 : Int32)).toInt64)), .second, .val (.long x), .second, .val (.ref b3), .val (.int rC), .unset] [(.ref b3)])) _
    refine XS.lload X5.here hx rfl (hb hby at_73) rfl ?_
    show Steps p.tables e below (T5.setTop (mkF m 75 #[.val (.long lo), .second, .val (.long hi), .second, .val (.long vv), .second, .val (.int mode), .val (.int (mode &&& (3 : Int32))), .val (.long ((((mode >>> ((2 : Int32) &&& 31)) &&& (3 : Int32)) - (1 : Int32)).toInt64)), .second, .val (.long x), .second, .val (.ref b3), .val (.int rC), .unset] [(.long x), (.ref b3)])) _
    refine st6 _ ?_
    show Steps p.tables e below (T6.setTop (mkF m 78 #[.val (.long lo), .second, .val (.long hi), .second, .val (.long vv), .second, .val (.int mode), .val (.int (mode &&& (3 : Int32))), .val (.long ((((mode >>> ((2 : Int32) &&& 31)) &&& (3 : Int32)) - (1 : Int32)).toInt64)), .second, .val (.long x), .second, .val (.ref b3), .val (.int rC), .unset] [(.ref bq2), (.ref b3)])) _
    refine st7.trans ?_
    show Steps p.tables e below (T7.setTop (mkF m 81 #[.val (.long lo), .second, .val (.long hi), .second, .val (.long vv), .second, .val (.int mode), .val (.int (mode &&& (3 : Int32))), .val (.long ((((mode >>> ((2 : Int32) &&& 31)) &&& (3 : Int32)) - (1 : Int32)).toInt64)), .second, .val (.long x), .second, .val (.ref b3), .val (.int rC), .unset] [(.ref bq3)])) _
    refine XS.astore X7.here hx rfl (hb hby at_81) rfl rfl (l' := #[.val (.long lo), .second, .val (.long hi), .second, .val (.long vv), .second, .val (.int mode), .val (.int (mode &&& (3 : Int32))), .val (.long ((((mode >>> ((2 : Int32) &&& 31)) &&& (3 : Int32)) - (1 : Int32)).toInt64)), .second, .val (.long x), .second, .val (.ref b3), .val (.int rC), .val (.ref bq3)]) rfl ?_
    show Steps p.tables e below (T7.setTop (mkF m 83 #[.val (.long lo), .second, .val (.long hi), .second, .val (.long vv), .second, .val (.int mode), .val (.int (mode &&& (3 : Int32))), .val (.long ((((mode >>> ((2 : Int32) &&& 31)) &&& (3 : Int32)) - (1 : Int32)).toInt64)), .second, .val (.long x), .second, .val (.ref b3), .val (.int rC), .val (.ref bq3)] [])) _
    refine XS.iload X7.here hx rfl (hb hby at_83) rfl ?_
    show Steps p.tables e below (T7.setTop (mkF m 85 #[.val (.long lo), .second, .val (.long hi), .second, .val (.long vv), .second, .val (.int mode), .val (.int (mode &&& (3 : Int32))), .val (.long ((((mode >>> ((2 : Int32) &&& 31)) &&& (3 : Int32)) - (1 : Int32)).toInt64)), .second, .val (.long x), .second, .val (.ref b3), .val (.int rC), .val (.ref bq3)] [(.int rC)])) _
    refine XS.aload X7.here hx rfl (hb hby at_85) rfl rfl ?_
    show Steps p.tables e below (T7.setTop (mkF m 87 #[.val (.long lo), .second, .val (.long hi), .second, .val (.long vv), .second, .val (.int mode), .val (.int (mode &&& (3 : Int32))), .val (.long ((((mode >>> ((2 : Int32) &&& 31)) &&& (3 : Int32)) - (1 : Int32)).toInt64)), .second, .val (.long x), .second, .val (.ref b3), .val (.int rC), .val (.ref bq3)] [(.ref bq3), (.int rC)])) _
    refine st8.trans ?_
    exact k
  by_cases c90 : rE = (0 : Int32)
  · obtain ⟨fs, hr, hrun, hended, hW, hsame⟩ := X8.leave (v := some (.int (1 : Int32))) (fun h => by rw [Bd.returns] at h; cases h)
    refine ⟨_, _, pre9 _ ?_, hrun, hended, _, _, rfl, ?_, ⟨_, rfl⟩, hW, hsame.mono (by decide) (by decide)⟩
    · show Steps p.tables e below (T8.setTop (mkF m 90 #[.val (.long lo), .second, .val (.long hi), .second, .val (.long vv), .second, .val (.int mode), .val (.int (mode &&& (3 : Int32))), .val (.long ((((mode >>> ((2 : Int32) &&& 31)) &&& (3 : Int32)) - (1 : Int32)).toInt64)), .second, .val (.long x), .second, .val (.ref b3), .val (.int rC), .val (.ref bq3)] [(.int rE), (.int rC)])) _
      refine XS.ifNo X8.here hx rfl (hb hby at_90) rfl ((if0 _ _).trans (teq c90).2) ?_
      show Steps p.tables e below (T8.setTop (mkF m 93 #[.val (.long lo), .second, .val (.long hi), .second, .val (.long vv), .second, .val (.int mode), .val (.int (mode &&& (3 : Int32))), .val (.long ((((mode >>> ((2 : Int32) &&& 31)) &&& (3 : Int32)) - (1 : Int32)).toInt64)), .second, .val (.long x), .second, .val (.ref b3), .val (.int rC), .val (.ref bq3)] [(.int rC)])) _
      refine XS.iconst X8.here hx rfl (hb hby at_93) ?_
      show Steps p.tables e below (T8.setTop (mkF m 94 #[.val (.long lo), .second, .val (.long hi), .second, .val (.long vv), .second, .val (.int mode), .val (.int (mode &&& (3 : Int32))), .val (.long ((((mode >>> ((2 : Int32) &&& 31)) &&& (3 : Int32)) - (1 : Int32)).toInt64)), .second, .val (.long x), .second, .val (.ref b3), .val (.int rC), .val (.ref bq3)] [(.int (1 : Int32)), (.int rC)])) _
      refine XS.goto X8.here hx rfl (pc0 := 94) (pc' := 98) rfl (hb hby at_94) (by decide) (by decide) ?_
      show Steps p.tables e below (T8.setTop (mkF m 98 #[.val (.long lo), .second, .val (.long hi), .second, .val (.long vv), .second, .val (.int mode), .val (.int (mode &&& (3 : Int32))), .val (.long ((((mode >>> ((2 : Int32) &&& 31)) &&& (3 : Int32)) - (1 : Int32)).toInt64)), .second, .val (.long x), .second, .val (.ref b3), .val (.int rC), .val (.ref bq3)] [(.int (1 : Int32)), (.int rC)])) _
      refine XS.icmpNo X8.here hx rfl (hb hby at_98) rfl (teq (p1 c90)).2 ?_
      show Steps p.tables e below (T8.setTop (mkF m 101 #[.val (.long lo), .second, .val (.long hi), .second, .val (.long vv), .second, .val (.int mode), .val (.int (mode &&& (3 : Int32))), .val (.long ((((mode >>> ((2 : Int32) &&& 31)) &&& (3 : Int32)) - (1 : Int32)).toInt64)), .second, .val (.long x), .second, .val (.ref b3), .val (.int rC), .val (.ref bq3)] [])) _
      refine XS.iconst X8.here hx rfl (hb hby at_101) ?_
      show Steps p.tables e below (T8.setTop (mkF m 102 #[.val (.long lo), .second, .val (.long hi), .second, .val (.long vv), .second, .val (.int mode), .val (.int (mode &&& (3 : Int32))), .val (.long ((((mode >>> ((2 : Int32) &&& 31)) &&& (3 : Int32)) - (1 : Int32)).toInt64)), .second, .val (.long x), .second, .val (.ref b3), .val (.int rC), .val (.ref bq3)] [(.int (1 : Int32))])) _
      refine XS.goto X8.here hx rfl (pc0 := 102) (pc' := 106) rfl (hb hby at_102) (by decide) (by decide) ?_
      show Steps p.tables e below (T8.setTop (mkF m 106 #[.val (.long lo), .second, .val (.long hi), .second, .val (.long vv), .second, .val (.int mode), .val (.int (mode &&& (3 : Int32))), .val (.long ((((mode >>> ((2 : Int32) &&& 31)) &&& (3 : Int32)) - (1 : Int32)).toInt64)), .second, .val (.long x), .second, .val (.ref b3), .val (.int rC), .val (.ref bq3)] [(.int (1 : Int32))])) _
      exact retN X8 hx (t := .boolean) Bd.returns (by simp) (hb hby at_106) hr
    · show Q0 Z lo hi vv mode h0 n0 _ T8.heap _
      rw [e8]
      exact ⟨rfl, N8⟩
  · obtain ⟨fs, hr, hrun, hended, hW, hsame⟩ := X8.leave (v := some (.int (1 : Int32))) (fun h => by rw [Bd.returns] at h; cases h)
    refine ⟨_, _, pre9 _ ?_, hrun, hended, _, _, rfl, ?_, ⟨_, rfl⟩, hW, hsame.mono (by decide) (by decide)⟩
    · show Steps p.tables e below (T8.setTop (mkF m 90 #[.val (.long lo), .second, .val (.long hi), .second, .val (.long vv), .second, .val (.int mode), .val (.int (mode &&& (3 : Int32))), .val (.long ((((mode >>> ((2 : Int32) &&& 31)) &&& (3 : Int32)) - (1 : Int32)).toInt64)), .second, .val (.long x), .second, .val (.ref b3), .val (.int rC), .val (.ref bq3)] [(.int rE), (.int rC)])) _
      refine XS.ifYes X8.here hx rfl (pc0 := 90) (pc' := 97) rfl (hb hby at_90) rfl ((if0 _ _).trans (feq c90).2) (by decide) (by decide) ?_
      show Steps p.tables e below (T8.setTop (mkF m 97 #[.val (.long lo), .second, .val (.long hi), .second, .val (.long vv), .second, .val (.int mode), .val (.int (mode &&& (3 : Int32))), .val (.long ((((mode >>> ((2 : Int32) &&& 31)) &&& (3 : Int32)) - (1 : Int32)).toInt64)), .second, .val (.long x), .second, .val (.ref b3), .val (.int rC), .val (.ref bq3)] [(.int rC)])) _
      refine XS.iconst X8.here hx rfl (hb hby at_97) ?_
      show Steps p.tables e below (T8.setTop (mkF m 98 #[.val (.long lo), .second, .val (.long hi), .second, .val (.long vv), .second, .val (.int mode), .val (.int (mode &&& (3 : Int32))), .val (.long ((((mode >>> ((2 : Int32) &&& 31)) &&& (3 : Int32)) - (1 : Int32)).toInt64)), .second, .val (.long x), .second, .val (.ref b3), .val (.int rC), .val (.ref bq3)] [(.int (0 : Int32)), (.int rC)])) _
      refine XS.icmpNo X8.here hx rfl (hb hby at_98) rfl (teq (p0 c90)).2 ?_
      show Steps p.tables e below (T8.setTop (mkF m 101 #[.val (.long lo), .second, .val (.long hi), .second, .val (.long vv), .second, .val (.int mode), .val (.int (mode &&& (3 : Int32))), .val (.long ((((mode >>> ((2 : Int32) &&& 31)) &&& (3 : Int32)) - (1 : Int32)).toInt64)), .second, .val (.long x), .second, .val (.ref b3), .val (.int rC), .val (.ref bq3)] [])) _
      refine XS.iconst X8.here hx rfl (hb hby at_101) ?_
      show Steps p.tables e below (T8.setTop (mkF m 102 #[.val (.long lo), .second, .val (.long hi), .second, .val (.long vv), .second, .val (.int mode), .val (.int (mode &&& (3 : Int32))), .val (.long ((((mode >>> ((2 : Int32) &&& 31)) &&& (3 : Int32)) - (1 : Int32)).toInt64)), .second, .val (.long x), .second, .val (.ref b3), .val (.int rC), .val (.ref bq3)] [(.int (1 : Int32))])) _
      refine XS.goto X8.here hx rfl (pc0 := 102) (pc' := 106) rfl (hb hby at_102) (by decide) (by decide) ?_
      show Steps p.tables e below (T8.setTop (mkF m 106 #[.val (.long lo), .second, .val (.long hi), .second, .val (.long vv), .second, .val (.int mode), .val (.int (mode &&& (3 : Int32))), .val (.long ((((mode >>> ((2 : Int32) &&& 31)) &&& (3 : Int32)) - (1 : Int32)).toInt64)), .second, .val (.long x), .second, .val (.ref b3), .val (.int rC), .val (.ref bq3)] [(.int (1 : Int32))])) _
      exact retN X8 hx (t := .boolean) Bd.returns (by simp) (hb hby at_106) hr
    · show Q0 Z lo hi vv mode h0 n0 _ T8.heap _
      rw [e8]
      exact ⟨rfl, N8⟩
set_option maxRecDepth 65536 in
set_option maxHeartbeats 40000000 in
theorem comes_1 {Post : Tables → Env → Array Value → State → Outcome → State → Prop} (hpost : ∀ tb e args s v u, (limb_1_1.after args s (.returned v) u = true ∧ limb_1_2.after args s (.returned v) u = true ∧ True) → FrameEnd s (.returned v) u (Jvm.fieldLocs frame_1_writes args s ++ Jvm.arrayLocs frame_1_arrays args s ++ Jvm.staticLocs frame_1_statics s) 16 128 → Post tb e args s (.returned v) u) :
    ArmFor flags0 classFile x code maxLocals ret World_1 tables_1 room_1 Calls_1 rest_1 Pre_1 Post := by
  intro l hfl _ _ p e ha hc hk s m args below hf hA hF happ hP
  obtain ⟨hcalls, hrest, hpre⟩ := hP
  obtain ⟨-, -, -, hnamed, -, -, -, hat⟩ := (Spec.applies_iff hf).mp happ
  obtain ⟨hg, hn⟩ := and_e (Cond.before_iff.mp (show (Jvm.Cond.and given_1 narrow_1).before args s = true from hpre))
  obtain ⟨hcount, r0⟩ := and_e hg
  obtain ⟨v0, r1⟩ := and_e r0
  obtain ⟨v1, r2⟩ := and_e r1
  obtain ⟨v2, r3⟩ := and_e r2
  obtain ⟨w0, w1, w2, w3, rfl⟩ : ∃ w0 w1 w2 w3 : Value, args = #[w0, w1, w2, w3] := by
    have hs : args.size = 4 := by simpa [Cond.value, given_1] using hcount
    obtain ⟨L⟩ := args
    match L, hs with
    | [w0, w1, w2, w3], _ => exact ⟨w0, w1, w2, w3, rfl⟩
  have hw := fun d (hd : d ∈ tables_1) => atoms_spec (ws := Jvm.Cond.code x code maxLocals ret :: tables_1) hat d (List.mem_cons_of_mem _ hd)
  obtain ⟨i0, ei0⟩ := isL_v v0
  obtain rfl : w0 = (.long i0) := Option.some.inj ei0
  obtain ⟨i1, ei1⟩ := isL_v v1
  obtain rfl : w1 = (.long i1) := Option.some.inj ei1
  obtain ⟨i2, ei2⟩ := isL_v v2
  obtain rfl : w2 = (.long i2) := Option.some.inj ei2
  obtain ⟨i3, ei3⟩ := is_v r3
  obtain rfl : w3 = (.int i3) := Option.some.inj ei3
  obtain ⟨n, o, h1, h2, h3, _, L, rfl, ⟨rfl, N⟩, hq⟩ := rm0 l s _ hw tables_1 i0 i1 i2 i3 s.heap s.heap.size (Nat.le_refl _) p e ha hc hk s m _ below hf ((Spec.applies_iff_loose hf).mp happ).1 ⟨rfl, State.Warmed39.refl s, rfl⟩ trivial
  refine ⟨n, _, h1, h2, h3, hpost _ _ _ _ _ _ ⟨Cond.after_iff.mpr rfl, Cond.after_iff.mpr (eq_i res_at (Term.int_eval (1)) rfl), trivial⟩ ⟨hq.1, hq.2.1, (hq.2.2.sift fun y hy => Or.inr (N y hy)).mono (by decide) (by decide)⟩⟩
theorem main_1_1 : Claimed_1_1 := comes_1 fun _ _ _ _ _ _ h hF => ⟨h.1, hF⟩
theorem main_1_2 : Claimed_1_2 := comes_1 fun _ _ _ _ _ _ h hF => ⟨h.2.1, hF⟩
end Jvm.Pilot.@@N@@
namespace Jvm.Pilot.@@N@@
open Jvm Jvm.ClassFile Sem Op Lib Jvm.Free Jvm.Stand Jvm.Pilot.@@N@@.Jvm.D
/-! MADE BY PROGRAM (witnessworld.py) out of the Statement's table words and the real class files: 11 classes; the members and pool entries that the words name. The judged class is class 1, her method 1. -/
namespace start1
open Jvm.ClassFile
def u (s : String) : CpInfo := .utf8 (stringToUtf16 s)
/-- a pool by its gaps: so many unusable entries, then the entry; so many at the end -/
def gap : Nat → List CpInfo → List CpInfo
  | 0, r => r
  | n + 1, r => .unusable :: gap n r
def poolList (es : List (Nat × CpInfo)) (last : Nat) : List CpInfo := es.foldr (fun e r => gap e.1 (e.2 :: r)) (gap last [])
def pool (es : List (Nat × CpInfo)) (last : Nat) : Array CpInfo := ⟨poolList es last⟩
def fileOf (pool : Array CpInfo) (this : Nat) (attrs : Array Attribute := #[]) (ms : Array MethodInfo := #[]) (fl : Nat := 33) (sup : Nat := 0) (ifs : Array Nat := #[]) (fds : Array FieldInfo := #[]) : ClassFile where
  minorVersion := 0
  majorVersion := 65
  constantPool := pool
  accessFlags := fl
  thisClass := this
  superClass := sup
  interfaces := ifs
  fields := fds
  methods := ms
  attributes := attrs
def plain (name : String) (sup : Option ClassId) : Class where
  name := name
  kind := .ordinary
  loader := none
  accessFlags := 33
  super := sup
  interfaces := #[]
  cf := none
  fields := #[]
  methods := #[]
  instanceTypes := #[]
  staticTypes := #[]
  resolved := #[]
  callSites := []
  init := .initialized
  statics := none
  mirror := none

def pool0 : Array CpInfo := pool [(5, u "<init>"), (0, u "()V"), (1, .class_ 10), (1, u "java/lang/Object")] 113

def k0c0 : Code := { maxStack := 0, maxLocals := 1, code := object_method_1_code, exceptionTable := #[], attributes := #[] }
def k0m0 : Method := { name := "<init>", desc := "()V", sig := { parameters := [], returnType := none }, accessFlags := 1, code := some k0c0 }
/-- java/lang/Object -/
def k0 : Class := { plain "java/lang/Object" none with
  accessFlags := 33
  interfaces := #[]
  cf := some (fileOf pool0 8 #[] #[{ accessFlags := 1, nameIndex := 5, descriptorIndex := 6, attributes := #[] }] 33 0 #[] #[])
  fields := #[]
  methods := #[k0m0]
  instanceTypes := #[]
  staticTypes := #[]
  resolved := Array.replicate 124 none
  statics := none }

def pool1 : Array CpInfo := pool [(2, .class_ 4), (1, u "java/lang/Object"), (0, u "<init>"), (0, u "()V"), (0, .class_ 8), (0, u "com/example/winnowpack/winnowpack/codec/Interval"), (0, .methodref 7 10), (0, .nameAndType 5 11), (0, u "(JJ)V"), (0, .methodref 7 13), (0, .nameAndType 14 15), (0, u "contains"), (0, u "(J)Z"), (0, .methodref 7 17), (0, .nameAndType 18 19), (0, u "equalTo"), (0, u "(J)Lcom/example/winnowpack/winnowpack/codec/Interval;"), (0, .methodref 7 21), (0, .nameAndType 22 23), (0, u "and"), (0, u "(Lcom/example/winnowpack/winnowpack/codec/Interval;)Lcom/example/winnowpack/winnowpack/codec/Interval;"), (0, .methodref 7 25), (0, .nameAndType 26 27), (0, u "isEmpty"), (0, u "()Z"), (0, .class_ 29), (0, u "com/example/winnowpack/winnowpack/codec/IntervalContainsPinLaw"), (2, u "law"), (0, u "(JJJI)Z")] 3

def k1m0 : Method := { name := "<init>", desc := "()V", sig := { parameters := [], returnType := none }, accessFlags := 2, code := none }
def k1c1 : Code := { maxStack := 6, maxLocals := 15, code := code, exceptionTable := #[], attributes := #[] }
def k1m1 : Method := { name := "law", desc := "(JJJI)Z", sig := { parameters := [.long, .long, .long, .int], returnType := some .boolean }, accessFlags := 9, code := some k1c1 }
/-- com/example/winnowpack/winnowpack/codec/IntervalContainsPinLaw -/
def k1 : Class := { plain "com/example/winnowpack/winnowpack/codec/IntervalContainsPinLaw" (some 0) with
  accessFlags := 49
  interfaces := #[]
  cf := some (fileOf pool1 28 #[] #[{ accessFlags := 2, nameIndex := 5, descriptorIndex := 6, attributes := #[] }, { accessFlags := 9, nameIndex := 32, descriptorIndex := 33, attributes := #[] }] 49 2 #[] #[])
  fields := #[]
  methods := #[k1m0, k1m1]
  instanceTypes := #[]
  staticTypes := #[]
  resolved := Array.replicate 37 none
  statics := none }

def pool2 : Array CpInfo := pool [(1, .methodref 2 3), (0, .class_ 4), (0, .nameAndType 5 6), (0, u "java/lang/Object"), (0, u "<init>"), (0, u "()V"), (0, .class_ 8), (0, u "java/lang/Record")] 13

def k2c0 : Code := { maxStack := 1, maxLocals := 1, code := jdk_30_method_1_code, exceptionTable := #[], attributes := #[] }
def k2m0 : Method := { name := "<init>", desc := "()V", sig := { parameters := [], returnType := none }, accessFlags := 4, code := some k2c0 }
/-- java/lang/Record -/
def k2 : Class := { plain "java/lang/Record" (some 0) with
  accessFlags := 1057
  interfaces := #[]
  cf := some (fileOf pool2 7 #[] #[{ accessFlags := 4, nameIndex := 5, descriptorIndex := 6, attributes := #[] }] 1057 2 #[] #[])
  fields := #[]
  methods := #[k2m0]
  instanceTypes := #[]
  staticTypes := #[]
  resolved := Array.replicate 22 none
  statics := none }

def pool3 : Array CpInfo := pool [(1, .methodref 2 3), (0, .class_ 4), (0, .nameAndType 5 6), (0, u "java/lang/Record"), (0, u "<init>"), (0, u "()V"), (0, .fieldref 8 9), (0, .class_ 10), (0, .nameAndType 11 12), (0, u "com/example/winnowpack/winnowpack/codec/Interval"), (0, u "low"), (0, u "J"), (0, .fieldref 8 14), (0, .nameAndType 15 12), (0, u "high"), (6, u "NONE"), (0, u "Lcom/example/winnowpack/winnowpack/codec/Interval;"), (0, .methodref 8 25), (0, .nameAndType 5 26), (0, u "(JJ)V"), (2, .methodref 30 31), (0, .class_ 32), (0, .nameAndType 33 34), (0, u "java/lang/Math"), (0, u "max"), (0, u "(JJ)J"), (0, .methodref 30 36), (0, .nameAndType 37 34), (0, u "min"), (2, u "isEmpty"), (0, u "()Z"), (14, u "ALL"), (6, u "(J)Lcom/example/winnowpack/winnowpack/codec/Interval;"), (4, u "equalTo"), (0, u "and"), (0, u "(Lcom/example/winnowpack/winnowpack/codec/Interval;)Lcom/example/winnowpack/winnowpack/codec/Interval;"), (0, u "contains"), (0, u "(J)Z")] 29

def k3c0 : Code := { maxStack := 3, maxLocals := 5, code := prog_52_method_1_code, exceptionTable := #[], attributes := #[] }
def k3m0 : Method := { name := "<init>", desc := "(JJ)V", sig := { parameters := [.long, .long], returnType := none }, accessFlags := 1, code := some k3c0 }
def k3c1 : Code := { maxStack := 6, maxLocals := 2, code := prog_52_method_6_code, exceptionTable := #[], attributes := #[] }
def k3m1 : Method := { name := "equalTo", desc := "(J)Lcom/example/winnowpack/winnowpack/codec/Interval;", sig := { parameters := [.long], returnType := some (.object "com/example/winnowpack/winnowpack/codec/Interval") }, accessFlags := 9, code := some k3c1 }
def k3c2 : Code := { maxStack := 8, maxLocals := 2, code := prog_52_method_7_code, exceptionTable := #[], attributes := #[] }
def k3m2 : Method := { name := "and", desc := "(Lcom/example/winnowpack/winnowpack/codec/Interval;)Lcom/example/winnowpack/winnowpack/codec/Interval;", sig := { parameters := [(.object "com/example/winnowpack/winnowpack/codec/Interval")], returnType := some (.object "com/example/winnowpack/winnowpack/codec/Interval") }, accessFlags := 1, code := some k3c2 }
def k3c3 : Code := { maxStack := 4, maxLocals := 1, code := prog_52_method_8_code, exceptionTable := #[], attributes := #[] }
def k3m3 : Method := { name := "isEmpty", desc := "()Z", sig := { parameters := [], returnType := some .boolean }, accessFlags := 1, code := some k3c3 }
def k3c4 : Code := { maxStack := 4, maxLocals := 3, code := prog_52_method_9_code, exceptionTable := #[], attributes := #[] }
def k3m4 : Method := { name := "contains", desc := "(J)Z", sig := { parameters := [.long], returnType := some .boolean }, accessFlags := 1, code := some k3c4 }
/-- com/example/winnowpack/winnowpack/codec/Interval -/
def k3 : Class := { plain "com/example/winnowpack/winnowpack/codec/Interval" (some 2) with
  accessFlags := 49
  interfaces := #[]
  cf := some (fileOf pool3 8 #[] #[{ accessFlags := 1, nameIndex := 5, descriptorIndex := 26, attributes := #[] }, { accessFlags := 9, nameIndex := 68, descriptorIndex := 63, attributes := #[] }, { accessFlags := 1, nameIndex := 69, descriptorIndex := 70, attributes := #[] }, { accessFlags := 1, nameIndex := 40, descriptorIndex := 41, attributes := #[] }, { accessFlags := 1, nameIndex := 71, descriptorIndex := 72, attributes := #[] }] 49 2 #[] #[{ accessFlags := 18, nameIndex := 11, descriptorIndex := 12, attributes := #[] }, { accessFlags := 18, nameIndex := 15, descriptorIndex := 12, attributes := #[] }, { accessFlags := 25, nameIndex := 56, descriptorIndex := 23, attributes := #[] }, { accessFlags := 25, nameIndex := 22, descriptorIndex := 23, attributes := #[] }])
  fields := #[{ name := "low", type := .long, accessFlags := 18, slot := 0, constantValue := 0 }, { name := "high", type := .long, accessFlags := 18, slot := 1, constantValue := 0 }, { name := "ALL", type := (.object "com/example/winnowpack/winnowpack/codec/Interval"), accessFlags := 25, slot := 0, constantValue := 0 }, { name := "NONE", type := (.object "com/example/winnowpack/winnowpack/codec/Interval"), accessFlags := 25, slot := 1, constantValue := 0 }]
  methods := #[k3m0, k3m1, k3m2, k3m3, k3m4]
  instanceTypes := #[.long, .long]
  staticTypes := #[(.object "com/example/winnowpack/winnowpack/codec/Interval"), (.object "com/example/winnowpack/winnowpack/codec/Interval")]
  resolved := Array.replicate 102 none
  statics := none }

def pool4 : Array CpInfo := pool [(1, .class_ 2), (0, u "java/lang/Math"), (1, .class_ 6), (1, u "java/lang/Object"), (0, u "<init>"), (0, u "()V"), (89, .class_ 100), (1, u "java/lang/Math$RandomNumberGeneratorHolder"), (20, u "(JJ)J"), (50, u "negativeZeroFloatBits"), (0, u "J"), (2, u "negativeZeroDoubleBits"), (21, u "max"), (2, u "min"), (43, u "$assertionsDisabled"), (0, u "Z"), (91, u "twoToTheDoubleScaleDown"), (0, u "D"), (4, u "twoToTheDoubleScaleUp"), (9, u "E"), (3, u "PI"), (2, u "TAU"), (2, u "DEGREES_TO_RADIANS"), (0, u "RADIANS_TO_DEGREES")] 94

def k4m0 : Method := { name := "<init>", desc := "()V", sig := { parameters := [], returnType := none }, accessFlags := 2, code := none }
def k4c1 : Code := { maxStack := 4, maxLocals := 4, code := jdk_29_method_66_code, exceptionTable := #[], attributes := #[] }
def k4m1 : Method := { name := "max", desc := "(JJ)J", sig := { parameters := [.long, .long], returnType := some .long }, accessFlags := 9, code := some k4c1 }
def k4c2 : Code := { maxStack := 4, maxLocals := 4, code := jdk_29_method_70_code, exceptionTable := #[], attributes := #[] }
def k4m2 : Method := { name := "min", desc := "(JJ)J", sig := { parameters := [.long, .long], returnType := some .long }, accessFlags := 9, code := some k4c2 }
/-- java/lang/Math -/
def k4 : Class := { plain "java/lang/Math" (some 0) with
  accessFlags := 49
  interfaces := #[]
  cf := some (fileOf pool4 1 #[.nestMembers #[98]] #[{ accessFlags := 2, nameIndex := 7, descriptorIndex := 8, attributes := #[] }, { accessFlags := 9, nameIndex := 198, descriptorIndex := 121, attributes := #[] }, { accessFlags := 9, nameIndex := 201, descriptorIndex := 121, attributes := #[] }] 49 4 #[] #[{ accessFlags := 25, nameIndex := 354, descriptorIndex := 339, attributes := #[] }, { accessFlags := 25, nameIndex := 358, descriptorIndex := 339, attributes := #[] }, { accessFlags := 25, nameIndex := 361, descriptorIndex := 339, attributes := #[] }, { accessFlags := 26, nameIndex := 364, descriptorIndex := 339, attributes := #[] }, { accessFlags := 26, nameIndex := 365, descriptorIndex := 339, attributes := #[] }, { accessFlags := 26, nameIndex := 172, descriptorIndex := 173, attributes := #[] }, { accessFlags := 26, nameIndex := 176, descriptorIndex := 173, attributes := #[] }, { accessFlags := 8, nameIndex := 344, descriptorIndex := 339, attributes := #[] }, { accessFlags := 8, nameIndex := 338, descriptorIndex := 339, attributes := #[] }, { accessFlags := 4120, nameIndex := 245, descriptorIndex := 246, attributes := #[] }])
  fields := #[{ name := "E", type := .double, accessFlags := 25, slot := 0, constantValue := 0 }, { name := "PI", type := .double, accessFlags := 25, slot := 1, constantValue := 0 }, { name := "TAU", type := .double, accessFlags := 25, slot := 2, constantValue := 0 }, { name := "DEGREES_TO_RADIANS", type := .double, accessFlags := 26, slot := 3, constantValue := 0 }, { name := "RADIANS_TO_DEGREES", type := .double, accessFlags := 26, slot := 4, constantValue := 0 }, { name := "negativeZeroFloatBits", type := .long, accessFlags := 26, slot := 5, constantValue := 0 }, { name := "negativeZeroDoubleBits", type := .long, accessFlags := 26, slot := 6, constantValue := 0 }, { name := "twoToTheDoubleScaleUp", type := .double, accessFlags := 8, slot := 7, constantValue := 0 }, { name := "twoToTheDoubleScaleDown", type := .double, accessFlags := 8, slot := 8, constantValue := 0 }, { name := "$assertionsDisabled", type := .boolean, accessFlags := 4120, slot := 9, constantValue := 0 }]
  methods := #[k4m0, k4m1, k4m2]
  instanceTypes := #[]
  staticTypes := #[.double, .double, .double, .double, .double, .long, .long, .double, .double, .boolean]
  resolved := Array.replicate 460 none
  statics := none }

def pool5 : Array CpInfo := pool [(1, u "java/lang/Cloneable"), (0, .class_ 1), (0, u "java/lang/Object"), (0, .class_ 3)] 3

/-- java/lang/Cloneable -/
def k5 : Class := { plain "java/lang/Cloneable" (some 0) with
  accessFlags := 1537
  interfaces := #[]
  cf := some (fileOf pool5 2 #[] #[] 1537 4 #[] #[])
  fields := #[]
  methods := #[]
  instanceTypes := #[]
  staticTypes := #[]
  resolved := Array.replicate 8 none
  statics := none }

def pool6 : Array CpInfo := pool [(1, u "java/io/Serializable"), (0, .class_ 1), (0, u "java/lang/Object"), (0, .class_ 3)] 3

/-- java/io/Serializable -/
def k6 : Class := { plain "java/io/Serializable" (some 0) with
  accessFlags := 1537
  interfaces := #[]
  cf := some (fileOf pool6 2 #[] #[] 1537 4 #[] #[])
  fields := #[]
  methods := #[]
  instanceTypes := #[]
  staticTypes := #[]
  resolved := Array.replicate 8 none
  statics := none }

/-- the primitive byte -/
def k7 : Class := { plain "byte" none with kind := .primitive 'B', accessFlags := 0x411 }
/-- [B -/
def k8 : Class := { plain "[B" (some 0) with kind := .array 7 .byte, interfaces := #[5, 6], accessFlags := 1041 }

/-- the primitive int -/
def k9 : Class := { plain "int" none with kind := .primitive 'I', accessFlags := 0x411 }
/-- [I -/
def k10 : Class := { plain "[I" (some 0) with kind := .array 9 .int, interfaces := #[5, 6], accessFlags := 1041 }

def heap : Heap := #[]
def classes : Array Class := #[k0, k1, k2, k3, k4, k5, k6, k7, k8, k9, k10]
def interned : List (Array UInt16 × Addr) := []
def slotsUsed : Nat := 0
def theMethod : MethodId := ⟨1, 1⟩
def args0 : Array Value := #[.long 1, .long 9, .long 5, .int 0]
def aboutOver (below : List Frame) : State where
  vm := { classes := classes, interned := interned.toArray }
  heap := heap
  slotsUsed := slotsUsed
  threads := #[{ frames := .invoking theMethod args0 :: below }]
def below0 : List Frame := [.native { method := ⟨0, 0⟩, args := #[] }]
def about1 : State := aboutOver below0
def p0 : Program := .bare "" "" ""
def e0 : Env := launch0.env 0 0 0
theorem w_frames : about1.frames = Frame.invoking theMethod args0 :: below0 := rfl
set_option maxRecDepth 65536 in
theorem w_args : argsFit about1.vm theMethod args0 = true := by decide +kernel
set_option maxRecDepth 65536 in
theorem w_heap : heapFits about1 = true := by decide +kernel
set_option maxRecDepth 65536 in
theorem w_runnable : about1.curStatus? = some .runnable := by decide +kernel
set_option maxRecDepth 65536 in
theorem w_alone : about1.alone = true := by decide +kernel
set_option maxRecDepth 65536 in
theorem w_named : about1.methodNamed? x = some theMethod := by decide +kernel
set_option maxRecDepth 65536 in
theorem w_hears : about1.hears theMethod below0 = true := by decide +kernel
set_option maxRecDepth 65536 in
theorem w_ripe : about1.ripe theMethod args0 below0 = true := by decide +kernel
theorem w_running : about1.status = .running := rfl
set_option maxRecDepth 65536 in
theorem w_room : about1.hasRoom e0.platform room_1 = true :=
  launch0.hasRoom_least _ room_1 (by decide +kernel) (by decide +kernel) (by decide +kernel) (by decide +kernel) (by decide +kernel) (by decide +kernel)
theorem allAtoms_all (ts : List Jvm.Cond) (a : Array Jvm.Value) (st : Jvm.State) : (allAtoms ts).before a st = ts.all (fun c => c.before a st) := by
  induction ts with
  | nil => rfl
  | cons c t ih =>
    show (Jvm.Cond.and c (allAtoms t)).before a st = _
    rw [Jvm.Cond.before_and, ih, List.all_cons]
def words1 : List Jvm.Cond := Jvm.Cond.code x code maxLocals ret :: tables_1
/-- a 'code' word, met by the world's own term for the bytes: nothing is compared byte by byte -/
theorem code_word {y : MethodName} {bytes : ByteArray} {mx : Nat} {rt : Option FieldType} {a : Array Value} {s : State} {m : MethodId} {meth : Method} {c : Code} (h1 : s.methodNamed? y = some m) (h2 : s.vm.method? m = some meth) (h3 : meth.code = some c) (h4 : c.code = bytes)
    (h5 : (c.maxLocals == mx && c.exceptionTable.isEmpty && decide (c.maxStack ≤ mostOperands) && decide (meth.sig.returnType = rt) && !meth.locks && decide (parseMethodDescriptor y.desc = some meth.sig)) = true) : (Jvm.Cond.code y bytes mx rt).before a s = true := by
  simp only [Bool.and_eq_true, beq_iff_eq, Bool.not_eq_true', decide_eq_true_eq] at h5
  obtain ⟨⟨⟨⟨⟨g1, g2⟩, g3⟩, g4⟩, g5⟩, g6⟩ := h5
  simp [Cond.before, Cond.holds, Cond.value, h1, h2, h3, h4, g1, g2, g3, g4, g5, g6]
def isCode : Jvm.Cond → Bool
  | .code _ _ _ _ => true
  | _ => false
theorem all_split {L : List Jvm.Cond} {P : Jvm.Cond → Bool} (h1 : L.all (fun c => isCode c || P c) = true) (h2 : ∀ c ∈ L.filter isCode, P c = true) : L.all P = true := by
  refine List.all_eq_true.mpr fun c hc => ?_
  have h := List.all_eq_true.mp h1 c hc
  rcases Bool.eq_false_or_eq_true (isCode c) with hi | hi
  · exact h2 c (List.mem_filter.mpr ⟨hc, hi⟩)
  · simpa [hi] using h
set_option maxRecDepth 65536 in
theorem w_c0 : (Jvm.Cond.code x code maxLocals ret).before args0 about1 = true := code_word (m := ⟨1, 1⟩) (meth := k1m1) (c := k1c1) (by decide +kernel) rfl rfl rfl (by decide +kernel)
set_option maxRecDepth 65536 in
theorem w_c1 : (Jvm.Cond.code ({ cls := "com/example/winnowpack/winnowpack/codec/Interval", name := "<init>", desc := "(JJ)V" } : Jvm.MethodName) prog_52_method_1_code (5 : Nat) (Option.none : Option Jvm.ClassFile.FieldType)).before args0 about1 = true := code_word (m := ⟨3, 0⟩) (meth := k3m0) (c := k3c0) (by decide +kernel) rfl rfl rfl (by decide +kernel)
set_option maxRecDepth 65536 in
theorem w_c2 : (Jvm.Cond.code ({ cls := "java/lang/Record", name := "<init>", desc := "()V" } : Jvm.MethodName) jdk_30_method_1_code (1 : Nat) (Option.none : Option Jvm.ClassFile.FieldType)).before args0 about1 = true := code_word (m := ⟨2, 0⟩) (meth := k2m0) (c := k2c0) (by decide +kernel) rfl rfl rfl (by decide +kernel)
set_option maxRecDepth 65536 in
theorem w_c3 : (Jvm.Cond.code ({ cls := "java/lang/Object", name := "<init>", desc := "()V" } : Jvm.MethodName) object_method_1_code (1 : Nat) (Option.none : Option Jvm.ClassFile.FieldType)).before args0 about1 = true := code_word (m := ⟨0, 0⟩) (meth := k0m0) (c := k0c0) (by decide +kernel) rfl rfl rfl (by decide +kernel)
set_option maxRecDepth 65536 in
theorem w_c4 : (Jvm.Cond.code ({ cls := "com/example/winnowpack/winnowpack/codec/Interval", name := "contains", desc := "(J)Z" } : Jvm.MethodName) prog_52_method_9_code (3 : Nat) (Option.some Jvm.ClassFile.FieldType.boolean)).before args0 about1 = true := code_word (m := ⟨3, 4⟩) (meth := k3m4) (c := k3c4) (by decide +kernel) rfl rfl rfl (by decide +kernel)
set_option maxRecDepth 65536 in
theorem w_c5 : (Jvm.Cond.code ({ cls := "com/example/winnowpack/winnowpack/codec/Interval", name := "equalTo", desc := "(J)Lcom/example/winnowpack/winnowpack/codec/Interval;" } : Jvm.MethodName) prog_52_method_6_code (2 : Nat) (Option.some (Jvm.ClassFile.FieldType.object "com/example/winnowpack/winnowpack/codec/Interval"))).before args0 about1 = true := code_word (m := ⟨3, 1⟩) (meth := k3m1) (c := k3c1) (by decide +kernel) rfl rfl rfl (by decide +kernel)
set_option maxRecDepth 65536 in
theorem w_c6 : (Jvm.Cond.code ({ cls := "com/example/winnowpack/winnowpack/codec/Interval", name := "and", desc := "(Lcom/example/winnowpack/winnowpack/codec/Interval;)Lcom/example/winnowpack/winnowpack/codec/Interval;" } : Jvm.MethodName) prog_52_method_7_code (2 : Nat) (Option.some (Jvm.ClassFile.FieldType.object "com/example/winnowpack/winnowpack/codec/Interval"))).before args0 about1 = true := code_word (m := ⟨3, 2⟩) (meth := k3m2) (c := k3c2) (by decide +kernel) rfl rfl rfl (by decide +kernel)
set_option maxRecDepth 65536 in
theorem w_c7 : (Jvm.Cond.code ({ cls := "java/lang/Math", name := "max", desc := "(JJ)J" } : Jvm.MethodName) jdk_29_method_66_code (4 : Nat) (Option.some Jvm.ClassFile.FieldType.long)).before args0 about1 = true := code_word (m := ⟨4, 1⟩) (meth := k4m1) (c := k4c1) (by decide +kernel) rfl rfl rfl (by decide +kernel)
set_option maxRecDepth 65536 in
theorem w_c8 : (Jvm.Cond.code ({ cls := "java/lang/Math", name := "min", desc := "(JJ)J" } : Jvm.MethodName) jdk_29_method_70_code (4 : Nat) (Option.some Jvm.ClassFile.FieldType.long)).before args0 about1 = true := code_word (m := ⟨4, 2⟩) (meth := k4m2) (c := k4c2) (by decide +kernel) rfl rfl rfl (by decide +kernel)
set_option maxRecDepth 65536 in
theorem w_c9 : (Jvm.Cond.code ({ cls := "com/example/winnowpack/winnowpack/codec/Interval", name := "isEmpty", desc := "()Z" } : Jvm.MethodName) prog_52_method_8_code (1 : Nat) (Option.some Jvm.ClassFile.FieldType.boolean)).before args0 about1 = true := code_word (m := ⟨3, 3⟩) (meth := k3m3) (c := k3c3) (by decide +kernel) rfl rfl rfl (by decide +kernel)
def codes1 : List Jvm.Cond := [Jvm.Cond.code x code maxLocals ret, Jvm.Cond.code ({ cls := "com/example/winnowpack/winnowpack/codec/Interval", name := "<init>", desc := "(JJ)V" } : Jvm.MethodName) prog_52_method_1_code (5 : Nat) (Option.none : Option Jvm.ClassFile.FieldType), Jvm.Cond.code ({ cls := "java/lang/Record", name := "<init>", desc := "()V" } : Jvm.MethodName) jdk_30_method_1_code (1 : Nat) (Option.none : Option Jvm.ClassFile.FieldType), Jvm.Cond.code ({ cls := "java/lang/Object", name := "<init>", desc := "()V" } : Jvm.MethodName) object_method_1_code (1 : Nat) (Option.none : Option Jvm.ClassFile.FieldType), Jvm.Cond.code ({ cls := "com/example/winnowpack/winnowpack/codec/Interval", name := "contains", desc := "(J)Z" } : Jvm.MethodName) prog_52_method_9_code (3 : Nat) (Option.some Jvm.ClassFile.FieldType.boolean), Jvm.Cond.code ({ cls := "com/example/winnowpack/winnowpack/codec/Interval", name := "equalTo", desc := "(J)Lcom/example/winnowpack/winnowpack/codec/Interval;" } : Jvm.MethodName) prog_52_method_6_code (2 : Nat) (Option.some (Jvm.ClassFile.FieldType.object "com/example/winnowpack/winnowpack/codec/Interval")), Jvm.Cond.code ({ cls := "com/example/winnowpack/winnowpack/codec/Interval", name := "and", desc := "(Lcom/example/winnowpack/winnowpack/codec/Interval;)Lcom/example/winnowpack/winnowpack/codec/Interval;" } : Jvm.MethodName) prog_52_method_7_code (2 : Nat) (Option.some (Jvm.ClassFile.FieldType.object "com/example/winnowpack/winnowpack/codec/Interval")), Jvm.Cond.code ({ cls := "java/lang/Math", name := "max", desc := "(JJ)J" } : Jvm.MethodName) jdk_29_method_66_code (4 : Nat) (Option.some Jvm.ClassFile.FieldType.long), Jvm.Cond.code ({ cls := "java/lang/Math", name := "min", desc := "(JJ)J" } : Jvm.MethodName) jdk_29_method_70_code (4 : Nat) (Option.some Jvm.ClassFile.FieldType.long), Jvm.Cond.code ({ cls := "com/example/winnowpack/winnowpack/codec/Interval", name := "isEmpty", desc := "()Z" } : Jvm.MethodName) prog_52_method_8_code (1 : Nat) (Option.some Jvm.ClassFile.FieldType.boolean)]
set_option maxRecDepth 65536 in
theorem codes_eq : words1.filter isCode = codes1 := rfl
theorem w_codes : ∀ c ∈ words1.filter isCode, c.before args0 about1 = true := by
  rw [codes_eq]
  intro c hc
  simp only [codes1, List.mem_cons, List.not_mem_nil, or_false] at hc
  rcases hc with rfl | rfl | rfl | rfl | rfl | rfl | rfl | rfl | rfl | rfl
  · exact w_c0
  · exact w_c1
  · exact w_c2
  · exact w_c3
  · exact w_c4
  · exact w_c5
  · exact w_c6
  · exact w_c7
  · exact w_c8
  · exact w_c9
set_option maxRecDepth 65536 in
theorem w_t1 : (words1.take 24).all (fun c => isCode c || c.before args0 about1) = true := by decide +kernel
set_option maxRecDepth 65536 in
theorem w_t2 : (words1.drop 24).all (fun c => isCode c || c.before args0 about1) = true := by decide +kernel
theorem w_tables : (allAtoms (Jvm.Cond.code x code maxLocals ret :: tables_1)).before args0 about1 = true := by
  rw [allAtoms_all]
  show words1.all (fun c => c.before args0 about1) = true
  refine all_split ?_ w_codes
  rw [← List.take_append_drop 24 words1, List.all_append, w_t1, w_t2]
  rfl
set_option maxRecDepth 65536 in
theorem w_case : (Jvm.Cond.and given_1 narrow_1).before args0 about1 = true := by decide +kernel
theorem w_applies : (headSpec (Jvm.Cond.code x code maxLocals ret :: tables_1) room_1).applies x e0.platform about1 = true :=
  (Spec.applies_iff w_frames).mpr ⟨w_running, w_runnable, w_alone, w_named, w_hears, w_ripe, w_room, w_tables⟩
theorem atStart : AtStart classFile x code maxLocals ret World_1 tables_1 room_1 Calls_1 rest_1 Pre_1 launch0 p0 e0 about1 theMethod args0 below0 :=
  ⟨lists_1, trivial, launch0.admits_env _ _ _, launch0.least_env, fairChoices_fair.cas, fairChoices_fair.clock, w_frames, w_args, w_heap, w_applies, trivial, trivial, w_case⟩
end start1
theorem witness_1 : WitnessClaimed_1 := ⟨start1.p0, start1.e0, start1.about1, start1.theMethod, start1.args0, start1.below0, start1.atStart⟩
end Jvm.Pilot.@@N@@
