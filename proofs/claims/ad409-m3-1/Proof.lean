import JvmDerived
import JvmDerived.Pilot.@@N@@Statement
import JvmDerived.Pilot.@@N@@Code
set_option linter.unusedVariables false
set_option linter.unusedSimpArgs false
namespace Jvm.RoadKit
open Sem ClassFile Op Lib Jvm.Stand Jvm.Free Jvm.LawKit
section New
variable {p : Program} {l : Launch} {e : Env} {R : Room} {s : State} {m : MethodId} {args : Array Value} {below : List Frame} {meth : Method} {c : Code} {T : State} {locs : List Loc} {cells slots : Nat}
theorem retI (X : Stand p l e R s m args below meth c T locs cells slots) (hx : p.tables.exec = Jvm.exec) {pc : Nat} {Ls : Array Slot} {z : Int32} {rest : List Value} (hret : meth.sig.returnType = some .int) (hd : decode c.code pc = .ok (.ireturn, 1)) {fs : List Frame}
    (hl : ∀ (f : JFrame) (acts : List Action), f.method = m → f.locked = none → f.entered = [] → (doReturn e (T.setTop f) acts (some (.int z))).1 = T.setFrames fs) : Steps p.tables e below (T.setTop (mkF m pc Ls (.int z :: rest))) (T.setFrames fs) := by
  have hm' : T.vm.method? m = some meth := X.method'
  have hn : narrow .int (.int z) = .int z := rfl
  show Steps p.tables e below (T.setTop { method := m, pc := pc, locals := Ls, stack := _ :: rest, locked := none }) _
  jvm_step X.here [X.here.top, hx, hd, hm', hret, hn]
  first | (intro acts; rw [hl _ acts rfl rfl rfl]) | rw [hl _ _ rfl rfl rfl]
  exact Steps.refl _
end New
end Jvm.RoadKit
namespace Jvm.Pilot.@@N@@
open Jvm Jvm.ClassFile Sem Op Lib Jvm.Free Jvm.Stand Jvm.LawKit Jvm.RoadKit Bundle Jvm.Pilot.@@N@@.Jvm.D
/-! what key computes, and the plain law -/
def own_key (p q : Int32) : Int64 := ((p.toInt64 <<< ((32 : Int32) &&& 0x3f).toInt64) + (q.toInt64 - (-2147483648 : Int64)))
theorem own_key_val (p q : Int32) : (own_key p q).toInt = p.toInt * 4294967296 + (q.toInt + 2147483648) := by
  have a1 := c_i2l p; have a2 := c_i2l q
  have a3 := c_lshl p.toInt64 32 32 (by decide)
  have a4 := c_lsub q.toInt64 (-2147483648)
  have a5 := c_ladd (p.toInt64 <<< ((32 : Int32) &&& 0x3f).toInt64) (q.toInt64 - (-2147483648 : Int64))
  have b1 := Int32.toInt_lt p; have b2 := Int32.le_toInt p
  have b3 := Int32.toInt_lt q; have b4 := Int32.le_toInt q
  have b5 := Int64.toInt_lt (own_key p q); have b6 := Int64.le_toInt (own_key p q)
  have b7 := Int64.toInt_lt (q.toInt64 - (-2147483648 : Int64)); have b8 := Int64.le_toInt (q.toInt64 - (-2147483648 : Int64))
  have e : own_key p q = ((p.toInt64 <<< ((32 : Int32) &&& 0x3f).toInt64) + (q.toInt64 - (-2147483648 : Int64))) := rfl
  rw [← e] at a5
  have c0 : (-2147483648 : Int64).toInt = -2147483648 := by decide
  rw [c0] at a4
  omega
theorem own_ends (l1 c1 ln cl r ex : Int32) (h1 : ((r = 1 ∧ (l1 < ln ∨ (l1 = ln ∧ ¬ cl < c1))) ∨ (r = 0 ∧ ¬ l1 < ln ∧ (l1 = ln → cl < c1)))) (h2 : (ex = 1 ∧ ¬ own_key ln cl < own_key l1 c1) ∨ (ex = 0 ∧ own_key ln cl < own_key l1 c1)) : r = ex := by
  simp only [Int64.lt_iff_toInt_lt, own_key_val, Int32.lt_iff_toInt_lt, ← Int32.toInt_inj, Int32.reduceToInt] at *
  have b1 := Int32.toInt_lt l1; have b2 := Int32.le_toInt l1
  have b3 := Int32.toInt_lt c1; have b4 := Int32.le_toInt c1
  have b5 := Int32.toInt_lt ln; have b6 := Int32.le_toInt ln
  have b7 := Int32.toInt_lt cl; have b8 := Int32.le_toInt cl
  omega
theorem own_self (l1 c1 r : Int32) (h1 : ((r = 1 ∧ (l1 < l1 ∨ (l1 = l1 ∧ ¬ c1 < c1))) ∨ (r = 0 ∧ ¬ l1 < l1 ∧ (l1 = l1 → c1 < c1)))) : ¬ r = 0 := by
  rcases h1 with ⟨rfl, -⟩ | ⟨-, -, h⟩
  · decide
  · exact absurd (h rfl) (by rw [Int32.lt_iff_toInt_lt]; omega)
def Qr (Z : State) (a1 : Addr) (h0 : Heap) (n0 : Nat) (v : Option Value) (h : Heap) (L : List Loc) : Prop := v = none ∧ Fr n0 L ∧ h = h0
theorem d2_0 : decode jdk_30_method_1_code 0 = .ok (.aload_n 0, 1) := by decide +kernel
theorem d2_1 : decode jdk_30_method_1_code 1 = .ok (.invokespecial 1, 3) := by decide +kernel
theorem d2_4 : decode jdk_30_method_1_code 4 = .ok (.return_, 1) := by decide +kernel
theorem ef_2 (m : MethodId) (a1 : Addr) : entryFrame m #[(.ref a1)] 1 = mkF m 0 #[.val (.ref a1)] [] := by first | (simp [entryFrame, mkF, argsToLocals, Value.category]; done) | rfl
theorem pn_0 : plainName "java/lang/Record" = true := by first | (simp [plainName, overriddenIn]; done) | decide +kernel
set_option maxRecDepth 65536 in
set_option maxHeartbeats 40000000 in
theorem rmR (l : Launch) (Z : State) (a0 : Array Value) (hw : ∀ d ∈ tables_1, d.before a0 Z = true) (ws : List Jvm.Cond) (a1 : Addr)  (h0 : Heap) (n0 : Nat) (Z0 : n0 ≤ h0.size)  :
    MetFree l (⟨"java/lang/Record", "<init>", "()V"⟩ : MethodName) (head1 (Jvm.Cond.code (⟨"java/lang/Record", "<init>", "()V"⟩ : MethodName) jdk_30_method_1_code 1 none :: ws) ({ frames := 1, cells := 0, slots := 0, locals := 12 } : Room)) (fun a U => a = #[(.ref a1)] ∧ Z.Warmed39 U.vm ∧ U.heap = h0) (fun _ _ _ _ _ => True) (fun _ U o U' => ∃ v L, o = .returned v ∧ Qr Z a1 h0 n0 v U'.heap L ∧ FrameEnd U o U' L ({ frames := 1, cells := 0, slots := 0, locals := 12 } : Room).cells ({ frames := 1, cells := 0, slots := 0, locals := 12 } : Room).slots) := by
  refine MetFree.of_bodySF (plainFor_of_name pn_0) hisR ?_
  intro p e s m args below meth c s₁ Bd hml0 hP hK
  obtain ⟨rfl, hZ, hh⟩ := hP
  have hx := Bd.exec
  have hby := Bd.bytes
  have hml : c.maxLocals = 1 := hml0
  have hown : s.vm.findClass "java/lang/Record" = some m.cls := findClass_of_methodNamed Bd.named
  have hnm := (name_of_methodNamed Bd.named Bd.method).1
  have X0 : Stand p l e ({ frames := 1, cells := 0, slots := 0, locals := 12 } : Room) s m #[(.ref a1)] below meth c s₁ [] 0 0 := Stand.of_body Bd
  have e0 : s₁.heap = h0 := by rw [← hh, Bd.state]; rfl
  have N0 := Fr.nil n0
  have pre0 : ∀ t, Steps p.tables e below (s₁.setTop (mkF m 0 #[.val (.ref a1)] [])) t → Steps p.tables e below (s₁.setTop (entryFrame m #[(.ref a1)] 1)) t := fun t k => castTop (ef_2 m a1) k
  obtain ⟨T1, X1, e1, st1⟩ := initO X0 hx hZ hown (hw _ (List.mem_of_getElem? (i := 19) rfl)) (hw _ (List.mem_of_getElem? (i := 20) rfl)) (hw _ (List.mem_of_getElem? (i := 21) rfl)) e0 (g := (mkF m 1 #[.val (.ref a1)] [(.ref a1)])) rfl (by rw [hml]; rfl) rfl (hb hby d2_1) (by decide) (W := 0) (by show 2 * 0 + _ ≤ _; exact Nat.le_of_eq rfl) (by decide)
  obtain ⟨fs, hr, hrun, hended, hW, hsame⟩ := X1.leave (v := none) (fun _ => rfl) (hlocks := BodyLoose.notSynchronized Bd)
  refine ⟨_, _, pre0 _ ?_, hrun, hended, _, _, rfl, ?_, ⟨_, rfl⟩, hW, hsame.mono (by decide) (by decide)⟩
  · show Steps p.tables e below (s₁.setTop (mkF m 0 #[.val (.ref a1)] [])) _
    refine XS.aloadN X0.here hx rfl (hb hby d2_0) rfl rfl ?_
    show Steps p.tables e below (s₁.setTop (mkF m 1 #[.val (.ref a1)] [(.ref a1)])) _
    refine st1 _ ?_
    show Steps p.tables e below (T1.setTop (mkF m 4 #[.val (.ref a1)] [])) _
    exact X1.returnOut hx Bd.returns (hb hby d2_4) hr
  · show Qr Z a1 h0 n0 _ T1.heap _
    rw [e1]
    exact ⟨rfl, N0, rfl⟩
def Qi (Z : State) (a1 a2 : Addr) (p3 p4 : Int32) (h0 : Heap) (n0 : Nat) (v : Option Value) (h : Heap) (L : List Loc) : Prop := v = none ∧ Fr n0 L ∧ Keep h0 h [a1] ∧ Exa Z h a1 "com/example/tendril/tendril/store/AttributeReferenceReader$Reference" ∧ Fld Z h a1 "com/example/tendril/tendril/store/AttributeReferenceReader$Reference" "line" "I" (.int p3) ∧ Fld Z h a1 "com/example/tendril/tendril/store/AttributeReferenceReader$Reference" "column" "I" (.int p4)
theorem d1_0 : decode prog_63_method_1_code 0 = .ok (.aload_n 0, 1) := by decide +kernel
theorem d1_1 : decode prog_63_method_1_code 1 = .ok (.invokespecial 1, 3) := by decide +kernel
theorem pd_0 : parseMethodDescriptor "()V" = some ⟨[], none⟩ := by decide +kernel
theorem d1_4 : decode prog_63_method_1_code 4 = .ok (.aload_n 0, 1) := by decide +kernel
theorem d1_5 : decode prog_63_method_1_code 5 = .ok (.aload_n 1, 1) := by decide +kernel
theorem d1_6 : decode prog_63_method_1_code 6 = .ok (.putfield 7, 3) := by decide +kernel
theorem d1_9 : decode prog_63_method_1_code 9 = .ok (.aload_n 0, 1) := by decide +kernel
theorem d1_10 : decode prog_63_method_1_code 10 = .ok (.iload_n 2, 1) := by decide +kernel
theorem d1_11 : decode prog_63_method_1_code 11 = .ok (.putfield 13, 3) := by decide +kernel
theorem d1_14 : decode prog_63_method_1_code 14 = .ok (.aload_n 0, 1) := by decide +kernel
theorem d1_15 : decode prog_63_method_1_code 15 = .ok (.iload_n 3, 1) := by decide +kernel
theorem d1_16 : decode prog_63_method_1_code 16 = .ok (.putfield 17, 3) := by decide +kernel
theorem d1_19 : decode prog_63_method_1_code 19 = .ok (.return_, 1) := by decide +kernel
theorem ef_1 (m : MethodId) (a1 : Addr) (a2 : Addr) (p3 : Int32) (p4 : Int32) : entryFrame m #[(.ref a1), (.ref a2), (.int p3), (.int p4)] 4 = mkF m 0 #[.val (.ref a1), .val (.ref a2), .val (.int p3), .val (.int p4)] [] := by first | (simp [entryFrame, mkF, argsToLocals, Value.category]; done) | rfl
theorem pn_1 : plainName "com/example/tendril/tendril/store/AttributeReferenceReader$Reference" = true := by first | (simp [plainName, overriddenIn]; done) | decide +kernel
set_option maxRecDepth 65536 in
set_option maxHeartbeats 40000000 in
theorem rmI (l : Launch) (Z : State) (a0 : Array Value) (hw : ∀ d ∈ tables_1, d.before a0 Z = true) (ws : List Jvm.Cond) (a1 : Addr) (a2 : Addr) (p3 : Int32) (p4 : Int32) (u1 u2 u3 : Value) (h0 : Heap) (n0 : Nat) (Z0 : n0 ≤ h0.size) (E : Exa Z h0 a1 "com/example/tendril/tendril/store/AttributeReferenceReader$Reference") (F1 : Fld Z h0 a1 "com/example/tendril/tendril/store/AttributeReferenceReader$Reference" "entity" "Ljava/lang/String;" u1) (F2 : Fld Z h0 a1 "com/example/tendril/tendril/store/AttributeReferenceReader$Reference" "line" "I" u2) (F3 : Fld Z h0 a1 "com/example/tendril/tendril/store/AttributeReferenceReader$Reference" "column" "I" u3) (g1 : n0 ≤ a1) :
    MetFree l (⟨"com/example/tendril/tendril/store/AttributeReferenceReader$Reference", "<init>", "(Ljava/lang/String;II)V"⟩ : MethodName) (head1 (Jvm.Cond.code (⟨"com/example/tendril/tendril/store/AttributeReferenceReader$Reference", "<init>", "(Ljava/lang/String;II)V"⟩ : MethodName) prog_63_method_1_code 4 none :: ws) ({ frames := 2, cells := 0, slots := 0, locals := 24 } : Room)) (fun a U => a = #[(.ref a1), (.ref a2), (.int p3), (.int p4)] ∧ Z.Warmed39 U.vm ∧ U.heap = h0) (fun _ _ _ _ _ => True) (fun _ U o U' => ∃ v L, o = .returned v ∧ Qi Z a1 a2 p3 p4 h0 n0 v U'.heap L ∧ FrameEnd U o U' L ({ frames := 2, cells := 0, slots := 0, locals := 24 } : Room).cells ({ frames := 2, cells := 0, slots := 0, locals := 24 } : Room).slots) := by
  refine MetFree.of_bodySF (plainFor_of_name pn_1) hisR ?_
  intro p e s m args below meth c s₁ Bd hml0 hP hK
  obtain ⟨rfl, hZ, hh⟩ := hP
  have hx := Bd.exec
  have hby := Bd.bytes
  have hml : c.maxLocals = 4 := hml0
  have hown : s.vm.findClass "com/example/tendril/tendril/store/AttributeReferenceReader$Reference" = some m.cls := findClass_of_methodNamed Bd.named
  have hnm := (name_of_methodNamed Bd.named Bd.method).1
  have X0 : Stand p l e ({ frames := 2, cells := 0, slots := 0, locals := 24 } : Room) s m #[(.ref a1), (.ref a2), (.int p3), (.int p4)] below meth c s₁ [] 0 0 := Stand.of_body Bd
  have e0 : s₁.heap = h0 := by rw [← hh, Bd.state]; rfl
  have N0 := Fr.nil n0
  have pre0 : ∀ t, Steps p.tables e below (s₁.setTop (mkF m 0 #[.val (.ref a1), .val (.ref a2), .val (.int p3), .val (.int p4)] [])) t → Steps p.tables e below (s₁.setTop (entryFrame m #[(.ref a1), (.ref a2), (.int p3), (.int p4)] 4)) t := fun t k => castTop (ef_1 m a1 a2 p3 p4) k
  obtain ⟨_, _, ⟨T1, L1, k1, n1⟩, -, X1, ⟨Lc1, hQ1, l1, y1, z1⟩, st1⟩ := X0.specialBack hx (y := (⟨"java/lang/Record", "<init>", "()V"⟩ : MethodName)) rfl hown (mvT hZ (hw _ (List.mem_of_getElem? (i := 14) rfl))) (mvT hZ (hw _ (List.mem_of_getElem? (i := 15) rfl))) (mvT hZ (hw _ (List.mem_of_getElem? (i := 18) rfl))) (by decide) (backOf (W := 0) (rmR l Z a0 hw [] a1 h0 n0 Z0) hZ (hw _ (List.mem_of_getElem? (i := 18) rfl)) (hw _ (List.mem_of_getElem? (i := 17) rfl)) (by decide) (by decide)) (g := (mkF m 1 #[.val (.ref a1), .val (.ref a2), .val (.int p3), .val (.int p4)] [(.ref a1)])) rfl (by rw [hml]; rfl) (Steps.refl _) (a := a1) (argsL := []) (rest := []) (lenOf pd_0 rfl) rfl (by show 2 * 0 + _ ≤ _; exact Nat.le_of_eq rfl) (hb hby d1_1) (fun _ _ => ⟨rfl, e0, (by decide : 0 + 0 ≤ _), (by decide : 0 + 0 ≤ _)⟩)
  dsimp only [Pt.U, Pt.locs, Pt.cells, Pt.slots] at X1 l1 y1 z1 st1 hQ1
  subst l1 y1 z1
  obtain ⟨rfl, N1q, e1⟩ := hQ1
  have N1 := Fr.app N0 N1q
  obtain ⟨T2, h2, X2, e2, W2, st2⟩ := putF X1 hx hZ hown (host := "") (Or.inl (hw _ (List.mem_of_getElem? (i := 22) rfl))) Via.refl e1 F1 E (Or.inr ⟨(hw _ (List.mem_of_getElem? (i := 23) rfl)), rfl, hnm⟩) (hw _ (List.mem_of_getElem? (i := 1) rfl)) (ty := (.object "java/lang/String")) (by decide) rfl rfl (g := (mkF m 6 #[.val (.ref a1), .val (.ref a2), .val (.int p3), .val (.int p4)] [(.ref a2), (.ref a1)])) rfl rfl (hb hby d1_6)
  have N2 := Fr.snoc X2 N1 g1
  have F2a := F2.other W2 (Or.inr (slot_ne (Or.inr (hw _ (List.mem_of_getElem? (i := 25) rfl))) (Or.inr (hw _ (List.mem_of_getElem? (i := 23) rfl))) (by decide) (t := .int) (t' := (.object "java/lang/String")) (by decide) (by decide)))
  have F3a := F3.other W2 (Or.inr (slot_ne (Or.inr (hw _ (List.mem_of_getElem? (i := 27) rfl))) (Or.inr (hw _ (List.mem_of_getElem? (i := 23) rfl))) (by decide) (t := .int) (t' := (.object "java/lang/String")) (by decide) (by decide)))
  have Ea := E.wr W2
  obtain ⟨T3, h3, X3, e3, W3, st3⟩ := putF X2 hx hZ hown (host := "") (Or.inl (hw _ (List.mem_of_getElem? (i := 24) rfl))) Via.refl e2 F2a Ea (Or.inr ⟨(hw _ (List.mem_of_getElem? (i := 25) rfl)), rfl, hnm⟩) (hw _ (List.mem_of_getElem? (i := 1) rfl)) (ty := .int) (by decide) rfl rfl (g := (mkF m 11 #[.val (.ref a1), .val (.ref a2), .val (.int p3), .val (.int p4)] [(.int p3), (.ref a1)])) rfl rfl (hb hby d1_11)
  have N3 := Fr.snoc X3 N2 g1
  have F2b := F2a.same W3
  have F3b := F3a.other W3 (Or.inr (slot_ne (Or.inr (hw _ (List.mem_of_getElem? (i := 27) rfl))) (Or.inr (hw _ (List.mem_of_getElem? (i := 25) rfl))) (by decide) (t := .int) (t' := .int) (by decide) (by decide)))
  have Eb := Ea.wr W3
  obtain ⟨T4, h4, X4, e4, W4, st4⟩ := putF X3 hx hZ hown (host := "") (Or.inl (hw _ (List.mem_of_getElem? (i := 26) rfl))) Via.refl e3 F3b Eb (Or.inr ⟨(hw _ (List.mem_of_getElem? (i := 27) rfl)), rfl, hnm⟩) (hw _ (List.mem_of_getElem? (i := 1) rfl)) (ty := .int) (by decide) rfl rfl (g := (mkF m 16 #[.val (.ref a1), .val (.ref a2), .val (.int p3), .val (.int p4)] [(.int p4), (.ref a1)])) rfl rfl (hb hby d1_16)
  have N4 := Fr.snoc X4 N3 g1
  obtain ⟨fs, hr, hrun, hended, hW, hsame⟩ := X4.leave (v := none) (fun _ => rfl) (hlocks := BodyLoose.notSynchronized Bd)
  refine ⟨_, _, pre0 _ ?_, hrun, hended, _, _, rfl, ?_, ⟨_, rfl⟩, hW, hsame.mono (by decide) (by decide)⟩
  · show Steps p.tables e below (s₁.setTop (mkF m 0 #[.val (.ref a1), .val (.ref a2), .val (.int p3), .val (.int p4)] [])) _
    refine XS.aloadN X0.here hx rfl (hb hby d1_0) rfl rfl ?_
    show Steps p.tables e below (s₁.setTop (mkF m 1 #[.val (.ref a1), .val (.ref a2), .val (.int p3), .val (.int p4)] [(.ref a1)])) _
    refine st1.trans ?_
    show Steps p.tables e below (T1.setTop (mkF m 4 #[.val (.ref a1), .val (.ref a2), .val (.int p3), .val (.int p4)] [])) _
    refine XS.aloadN X1.here hx rfl (hb hby d1_4) rfl rfl ?_
    show Steps p.tables e below (T1.setTop (mkF m 5 #[.val (.ref a1), .val (.ref a2), .val (.int p3), .val (.int p4)] [(.ref a1)])) _
    refine XS.aloadN X1.here hx rfl (hb hby d1_5) rfl rfl ?_
    show Steps p.tables e below (T1.setTop (mkF m 6 #[.val (.ref a1), .val (.ref a2), .val (.int p3), .val (.int p4)] [(.ref a2), (.ref a1)])) _
    refine st2 _ ?_
    show Steps p.tables e below (T2.setTop (mkF m 9 #[.val (.ref a1), .val (.ref a2), .val (.int p3), .val (.int p4)] [])) _
    refine XS.aloadN X2.here hx rfl (hb hby d1_9) rfl rfl ?_
    show Steps p.tables e below (T2.setTop (mkF m 10 #[.val (.ref a1), .val (.ref a2), .val (.int p3), .val (.int p4)] [(.ref a1)])) _
    refine XS.iloadN X2.here hx rfl (hb hby d1_10) rfl ?_
    show Steps p.tables e below (T2.setTop (mkF m 11 #[.val (.ref a1), .val (.ref a2), .val (.int p3), .val (.int p4)] [(.int p3), (.ref a1)])) _
    refine st3 _ ?_
    show Steps p.tables e below (T3.setTop (mkF m 14 #[.val (.ref a1), .val (.ref a2), .val (.int p3), .val (.int p4)] [])) _
    refine XS.aloadN X3.here hx rfl (hb hby d1_14) rfl rfl ?_
    show Steps p.tables e below (T3.setTop (mkF m 15 #[.val (.ref a1), .val (.ref a2), .val (.int p3), .val (.int p4)] [(.ref a1)])) _
    refine XS.iloadN X3.here hx rfl (hb hby d1_15) rfl ?_
    show Steps p.tables e below (T3.setTop (mkF m 16 #[.val (.ref a1), .val (.ref a2), .val (.int p3), .val (.int p4)] [(.int p4), (.ref a1)])) _
    refine st4 _ ?_
    show Steps p.tables e below (T4.setTop (mkF m 19 #[.val (.ref a1), .val (.ref a2), .val (.int p3), .val (.int p4)] [])) _
    exact X4.returnOut hx Bd.returns (hb hby d1_19) hr
  · show Qi Z a1 a2 p3 p4 h0 n0 _ T4.heap _
    rw [e4]
    exact ⟨rfl, N4, (((Keep.refl h0 [a1]).wr W2 (Or.inl (List.mem_of_getElem? (i := 0) rfl))).wr W3 (Or.inl (List.mem_of_getElem? (i := 0) rfl))).wr W4 (Or.inl (List.mem_of_getElem? (i := 0) rfl)), Eb.wr W4, F2b.other W4 (Or.inr (slot_ne (Or.inr (hw _ (List.mem_of_getElem? (i := 25) rfl))) (Or.inr (hw _ (List.mem_of_getElem? (i := 27) rfl))) (by decide) (t := .int) (t' := .int) (by decide) (by decide))), F3b.same W4⟩
def Qk (Z : State) (p1 p2 : Int32) (h0 : Heap) (n0 : Nat) (v : Option Value) (h : Heap) (L : List Loc) : Prop := v = some (.long (own_key p1 p2)) ∧ Fr n0 L ∧ h = h0
theorem d4_0 : decode method_2_code 0 = .ok (.iload_n 0, 1) := by decide +kernel
theorem d4_1 : decode method_2_code 1 = .ok (.i2l, 1) := by decide +kernel
theorem d4_2 : decode method_2_code 2 = .ok (.bipush 32, 2) := by decide +kernel
theorem d4_4 : decode method_2_code 4 = .ok (.lshl, 1) := by decide +kernel
theorem d4_5 : decode method_2_code 5 = .ok (.iload_n 1, 1) := by decide +kernel
theorem d4_6 : decode method_2_code 6 = .ok (.i2l, 1) := by decide +kernel
theorem d4_7 : decode method_2_code 7 = .ok (.ldc2_w 9, 3) := by decide +kernel
theorem d4_10 : decode method_2_code 10 = .ok (.lsub, 1) := by decide +kernel
theorem d4_11 : decode method_2_code 11 = .ok (.ladd, 1) := by decide +kernel
theorem d4_12 : decode method_2_code 12 = .ok (.lreturn, 1) := by decide +kernel
theorem ef_4 (m : MethodId) (p1 : Int32) (p2 : Int32) : entryFrame m #[(.int p1), (.int p2)] 2 = mkF m 0 #[.val (.int p1), .val (.int p2)] [] := by first | (simp [entryFrame, mkF, argsToLocals, Value.category]; done) | rfl
theorem pn_2 : plainName "com/example/tendril/tendril/store/ReferenceEndsByPinLaw" = true := by first | (simp [plainName, overriddenIn]; done) | decide +kernel
set_option maxRecDepth 65536 in
set_option maxHeartbeats 40000000 in
theorem rmK (l : Launch) (Z : State) (a0 : Array Value) (hw : ∀ d ∈ tables_1, d.before a0 Z = true) (ws : List Jvm.Cond) (p1 : Int32) (p2 : Int32)  (h0 : Heap) (n0 : Nat) (Z0 : n0 ≤ h0.size)  :
    MetFree l (⟨"com/example/tendril/tendril/store/ReferenceEndsByPinLaw", "key", "(II)J"⟩ : MethodName) (head1 (Jvm.Cond.code (⟨"com/example/tendril/tendril/store/ReferenceEndsByPinLaw", "key", "(II)J"⟩ : MethodName) method_2_code 2 (some .long) :: ws) ({ frames := 0, cells := 0, slots := 0, locals := 0 } : Room)) (fun a U => a = #[(.int p1), (.int p2)] ∧ Z.Warmed39 U.vm ∧ U.heap = h0) (fun _ _ _ _ _ => True) (fun _ U o U' => ∃ v L, o = .returned v ∧ Qk Z p1 p2 h0 n0 v U'.heap L ∧ FrameEnd U o U' L ({ frames := 0, cells := 0, slots := 0, locals := 0 } : Room).cells ({ frames := 0, cells := 0, slots := 0, locals := 0 } : Room).slots) := by
  refine MetFree.of_bodySF (plainFor_of_name pn_2) hisR ?_
  intro p e s m args below meth c s₁ Bd hml0 hP hK
  obtain ⟨rfl, hZ, hh⟩ := hP
  have hx := Bd.exec
  have hby := Bd.bytes
  have hml : c.maxLocals = 2 := hml0
  have hown : s.vm.findClass "com/example/tendril/tendril/store/ReferenceEndsByPinLaw" = some m.cls := findClass_of_methodNamed Bd.named
  have hnm := (name_of_methodNamed Bd.named Bd.method).1
  have X0 : Stand p l e ({ frames := 0, cells := 0, slots := 0, locals := 0 } : Room) s m #[(.int p1), (.int p2)] below meth c s₁ [] 0 0 := Stand.of_body Bd
  have e0 : s₁.heap = h0 := by rw [← hh, Bd.state]; rfl
  have N0 := Fr.nil n0
  have pre0 : ∀ t, Steps p.tables e below (s₁.setTop (mkF m 0 #[.val (.int p1), .val (.int p2)] [])) t → Steps p.tables e below (s₁.setTop (entryFrame m #[(.int p1), (.int p2)] 2)) t := fun t k => castTop (ef_4 m p1 p2) k
  obtain ⟨fs, hr, hrun, hended, hW, hsame⟩ := X0.leave (v := some (.long (((p1.toInt64) <<< ((32 : Int32) &&& 0x3f).toInt64) + ((p2.toInt64) - (-2147483648 : Int64))))) (fun h => by rw [Bd.returns] at h; cases h) (hlocks := BodyLoose.notSynchronized Bd)
  refine ⟨_, _, pre0 _ ?_, hrun, hended, _, _, rfl, ?_, ⟨_, rfl⟩, hW, hsame.mono (by decide) (by decide)⟩
  · show Steps p.tables e below (s₁.setTop (mkF m 0 #[.val (.int p1), .val (.int p2)] [])) _
    refine XS.iloadN X0.here hx rfl (hb hby d4_0) rfl ?_
    show Steps p.tables e below (s₁.setTop (mkF m 1 #[.val (.int p1), .val (.int p2)] [(.int p1)])) _
    refine XS.i2l X0.here hx rfl (hb hby d4_1) rfl ?_
    show Steps p.tables e below (s₁.setTop (mkF m 2 #[.val (.int p1), .val (.int p2)] [(.long (p1.toInt64))])) _
    refine XS.bipush X0.here hx rfl (hb hby d4_2) ?_
    show Steps p.tables e below (s₁.setTop (mkF m 4 #[.val (.int p1), .val (.int p2)] [(.int (32 : Int32)), (.long (p1.toInt64))])) _
    refine XS.lshl X0.here hx rfl (hb hby d4_4) rfl ?_
    show Steps p.tables e below (s₁.setTop (mkF m 5 #[.val (.int p1), .val (.int p2)] [(.long ((p1.toInt64) <<< ((32 : Int32) &&& 0x3f).toInt64))])) _
    refine XS.iloadN X0.here hx rfl (hb hby d4_5) rfl ?_
    show Steps p.tables e below (s₁.setTop (mkF m 6 #[.val (.int p1), .val (.int p2)] [(.int p2), (.long ((p1.toInt64) <<< ((32 : Int32) &&& 0x3f).toInt64))])) _
    refine XS.i2l X0.here hx rfl (hb hby d4_6) rfl ?_
    show Steps p.tables e below (s₁.setTop (mkF m 7 #[.val (.int p1), .val (.int p2)] [(.long (p2.toInt64)), (.long ((p1.toInt64) <<< ((32 : Int32) &&& 0x3f).toInt64))])) _
    refine X0.ldc2Long hx hown (mvT hZ (hw _ (List.mem_of_getElem? (i := 32) rfl))) (g := (mkF m 7 #[.val (.int p1), .val (.int p2)] [(.long (p2.toInt64)), (.long ((p1.toInt64) <<< ((32 : Int32) &&& 0x3f).toInt64))])) rfl (hb hby d4_7) _ ?_
    show Steps p.tables e below (s₁.setTop (mkF m 10 #[.val (.int p1), .val (.int p2)] [(.long (-2147483648 : Int64)), (.long (p2.toInt64)), (.long ((p1.toInt64) <<< ((32 : Int32) &&& 0x3f).toInt64))])) _
    refine XS.lsub X0.here hx rfl (hb hby d4_10) rfl ?_
    show Steps p.tables e below (s₁.setTop (mkF m 11 #[.val (.int p1), .val (.int p2)] [(.long ((p2.toInt64) - (-2147483648 : Int64))), (.long ((p1.toInt64) <<< ((32 : Int32) &&& 0x3f).toInt64))])) _
    refine XS.ladd X0.here hx rfl (hb hby d4_11) rfl ?_
    show Steps p.tables e below (s₁.setTop (mkF m 12 #[.val (.int p1), .val (.int p2)] [(.long (((p1.toInt64) <<< ((32 : Int32) &&& 0x3f).toInt64) + ((p2.toInt64) - (-2147483648 : Int64))))])) _
    exact retOut X0 hx (t := .long) Bd.returns rfl (Or.inr (Or.inl ⟨rfl, rfl, _, rfl⟩)) (hb hby d4_12) hr
  · show Qk Z p1 p2 h0 n0 _ s₁.heap _
    rw [e0]
    exact ⟨rfl, N0, rfl⟩
def Qe (Z : State) (a1 : Addr) (p2 p3 ln cl : Int32) (h0 : Heap) (n0 : Nat) (v : Option Value) (h : Heap) (L : List Loc) : Prop := (∃ r : Int32, v = some (.int r) ∧ ((r = 1 ∧ (ln < p2 ∨ (ln = p2 ∧ ¬ p3 < cl))) ∨ (r = 0 ∧ ¬ ln < p2 ∧ (ln = p2 → p3 < cl)))) ∧ Fr n0 L ∧ h = h0
theorem d5_0 : decode prog_63_method_2_code 0 = .ok (.aload_n 0, 1) := by decide +kernel
theorem d5_1 : decode prog_63_method_2_code 1 = .ok (.getfield 13, 3) := by decide +kernel
theorem d5_4 : decode prog_63_method_2_code 4 = .ok (.iload_n 1, 1) := by decide +kernel
theorem d5_5 : decode prog_63_method_2_code 5 = .ok (.if_icmp .lt 19, 3) := by decide +kernel
theorem d5_24 : decode prog_63_method_2_code 24 = .ok (.iconst 1, 1) := by decide +kernel
theorem d5_25 : decode prog_63_method_2_code 25 = .ok (.goto 4, 3) := by decide +kernel
theorem d5_29 : decode prog_63_method_2_code 29 = .ok (.ireturn, 1) := by decide +kernel
theorem d5_8 : decode prog_63_method_2_code 8 = .ok (.aload_n 0, 1) := by decide +kernel
theorem d5_9 : decode prog_63_method_2_code 9 = .ok (.getfield 13, 3) := by decide +kernel
theorem d5_12 : decode prog_63_method_2_code 12 = .ok (.iload_n 1, 1) := by decide +kernel
theorem d5_13 : decode prog_63_method_2_code 13 = .ok (.if_icmp .ne 15, 3) := by decide +kernel
theorem d5_16 : decode prog_63_method_2_code 16 = .ok (.aload_n 0, 1) := by decide +kernel
theorem d5_17 : decode prog_63_method_2_code 17 = .ok (.getfield 17, 3) := by decide +kernel
theorem d5_20 : decode prog_63_method_2_code 20 = .ok (.iload_n 2, 1) := by decide +kernel
theorem d5_21 : decode prog_63_method_2_code 21 = .ok (.if_icmp .gt 7, 3) := by decide +kernel
theorem d5_28 : decode prog_63_method_2_code 28 = .ok (.iconst 0, 1) := by decide +kernel
theorem ef_5 (m : MethodId) (a1 : Addr) (p2 : Int32) (p3 : Int32) : entryFrame m #[(.ref a1), (.int p2), (.int p3)] 3 = mkF m 0 #[.val (.ref a1), .val (.int p2), .val (.int p3)] [] := by first | (simp [entryFrame, mkF, argsToLocals, Value.category]; done) | rfl
set_option maxRecDepth 65536 in
set_option maxHeartbeats 40000000 in
theorem rmE (l : Launch) (Z : State) (a0 : Array Value) (hw : ∀ d ∈ tables_1, d.before a0 Z = true) (ws : List Jvm.Cond) (a1 : Addr) (p2 : Int32) (p3 : Int32) (ln cl : Int32) (h0 : Heap) (n0 : Nat) (Z0 : n0 ≤ h0.size) (F1 : Fld Z h0 a1 "com/example/tendril/tendril/store/AttributeReferenceReader$Reference" "line" "I" (.int ln)) (F2 : Fld Z h0 a1 "com/example/tendril/tendril/store/AttributeReferenceReader$Reference" "column" "I" (.int cl)) :
    MetFree l (⟨"com/example/tendril/tendril/store/AttributeReferenceReader$Reference", "endsBy", "(II)Z"⟩ : MethodName) (head1 (Jvm.Cond.code (⟨"com/example/tendril/tendril/store/AttributeReferenceReader$Reference", "endsBy", "(II)Z"⟩ : MethodName) prog_63_method_2_code 3 (some .boolean) :: ws) ({ frames := 0, cells := 0, slots := 0, locals := 0 } : Room)) (fun a U => a = #[(.ref a1), (.int p2), (.int p3)] ∧ Z.Warmed39 U.vm ∧ U.heap = h0) (fun _ _ _ _ _ => True) (fun _ U o U' => ∃ v L, o = .returned v ∧ Qe Z a1 p2 p3 ln cl h0 n0 v U'.heap L ∧ FrameEnd U o U' L ({ frames := 0, cells := 0, slots := 0, locals := 0 } : Room).cells ({ frames := 0, cells := 0, slots := 0, locals := 0 } : Room).slots) := by
  refine MetFree.of_bodySF (plainFor_of_name pn_1) hisR ?_
  intro p e s m args below meth c s₁ Bd hml0 hP hK
  obtain ⟨rfl, hZ, hh⟩ := hP
  have hx := Bd.exec
  have hby := Bd.bytes
  have hml : c.maxLocals = 3 := hml0
  have hown : s.vm.findClass "com/example/tendril/tendril/store/AttributeReferenceReader$Reference" = some m.cls := findClass_of_methodNamed Bd.named
  have hnm := (name_of_methodNamed Bd.named Bd.method).1
  have X0 : Stand p l e ({ frames := 0, cells := 0, slots := 0, locals := 0 } : Room) s m #[(.ref a1), (.int p2), (.int p3)] below meth c s₁ [] 0 0 := Stand.of_body Bd
  have e0 : s₁.heap = h0 := by rw [← hh, Bd.state]; rfl
  have N0 := Fr.nil n0
  have pre0 : ∀ t, Steps p.tables e below (s₁.setTop (mkF m 0 #[.val (.ref a1), .val (.int p2), .val (.int p3)] [])) t → Steps p.tables e below (s₁.setTop (entryFrame m #[(.ref a1), (.int p2), (.int p3)] 3)) t := fun t k => castTop (ef_5 m a1 p2 p3) k
  obtain ⟨T1, X1, e1, st1⟩ := getF X0 hx hZ hown (host := "") (Or.inl (hw _ (List.mem_of_getElem? (i := 24) rfl))) Via.refl e0 F1 (g := (mkF m 1 #[.val (.ref a1), .val (.int p2), .val (.int p3)] [(.ref a1)])) rfl rfl (hb hby d5_1)
  have pre2 : ∀ t, Steps p.tables e below (T1.setTop (mkF m 5 #[.val (.ref a1), .val (.int p2), .val (.int p3)] [(.int p2), (.int ln)])) t → Steps p.tables e below (s₁.setTop (entryFrame m #[(.ref a1), (.int p2), (.int p3)] 3)) t := by
    intro t k
    refine pre0 t ?_
    show Steps p.tables e below (s₁.setTop (mkF m 0 #[.val (.ref a1), .val (.int p2), .val (.int p3)] [])) _
    refine XS.aloadN X0.here hx rfl (hb hby d5_0) rfl rfl ?_
    show Steps p.tables e below (s₁.setTop (mkF m 1 #[.val (.ref a1), .val (.int p2), .val (.int p3)] [(.ref a1)])) _
    refine st1 _ ?_
    show Steps p.tables e below (T1.setTop (mkF m 4 #[.val (.ref a1), .val (.int p2), .val (.int p3)] [(.int ln)])) _
    refine XS.iloadN X1.here hx rfl (hb hby d5_4) rfl ?_
    exact k
  by_cases c5 : ln < p2
  · obtain ⟨fs, hr, hrun, hended, hW, hsame⟩ := X1.leave (v := some (.int (1 : Int32))) (fun h => by rw [Bd.returns] at h; cases h) (hlocks := BodyLoose.notSynchronized Bd)
    refine ⟨_, _, pre2 _ ?_, hrun, hended, _, _, rfl, ?_, ⟨_, rfl⟩, hW, hsame.mono (by decide) (by decide)⟩
    · show Steps p.tables e below (T1.setTop (mkF m 5 #[.val (.ref a1), .val (.int p2), .val (.int p3)] [(.int p2), (.int ln)])) _
      refine XS.icmpYes X1.here hx rfl (pc0 := 5) (pc' := 24) rfl (hb hby d5_5) rfl (tlt c5).1 (by decide) (by decide) ?_
      show Steps p.tables e below (T1.setTop (mkF m 24 #[.val (.ref a1), .val (.int p2), .val (.int p3)] [])) _
      refine XS.iconst X1.here hx rfl (hb hby d5_24) ?_
      show Steps p.tables e below (T1.setTop (mkF m 25 #[.val (.ref a1), .val (.int p2), .val (.int p3)] [(.int (1 : Int32))])) _
      refine XS.goto X1.here hx rfl (pc0 := 25) (pc' := 29) rfl (hb hby d5_25) (by decide) (by decide) ?_
      show Steps p.tables e below (T1.setTop (mkF m 29 #[.val (.ref a1), .val (.int p2), .val (.int p3)] [(.int (1 : Int32))])) _
      exact retN X1 hx (t := .boolean) Bd.returns (by simp) (hb hby d5_29) hr
    · show Qe Z a1 p2 p3 ln cl h0 n0 _ T1.heap _
      rw [e1]
      exact ⟨⟨_, rfl, Or.inl ⟨rfl, Or.inl c5⟩⟩, N0, rfl⟩
  · obtain ⟨T3, X3, e3, st3⟩ := getF X1 hx hZ hown (host := "") (Or.inl (hw _ (List.mem_of_getElem? (i := 24) rfl))) Via.refl e1 F1 (g := (mkF m 9 #[.val (.ref a1), .val (.int p2), .val (.int p3)] [(.ref a1)])) rfl rfl (hb hby d5_9)
    have pre4 : ∀ t, Steps p.tables e below (T3.setTop (mkF m 13 #[.val (.ref a1), .val (.int p2), .val (.int p3)] [(.int p2), (.int ln)])) t → Steps p.tables e below (s₁.setTop (entryFrame m #[(.ref a1), (.int p2), (.int p3)] 3)) t := by
      intro t k
      refine pre2 t ?_
      show Steps p.tables e below (T1.setTop (mkF m 5 #[.val (.ref a1), .val (.int p2), .val (.int p3)] [(.int p2), (.int ln)])) _
      refine XS.icmpNo X1.here hx rfl (hb hby d5_5) rfl (flt c5).1 ?_
      show Steps p.tables e below (T1.setTop (mkF m 8 #[.val (.ref a1), .val (.int p2), .val (.int p3)] [])) _
      refine XS.aloadN X1.here hx rfl (hb hby d5_8) rfl rfl ?_
      show Steps p.tables e below (T1.setTop (mkF m 9 #[.val (.ref a1), .val (.int p2), .val (.int p3)] [(.ref a1)])) _
      refine st3 _ ?_
      show Steps p.tables e below (T3.setTop (mkF m 12 #[.val (.ref a1), .val (.int p2), .val (.int p3)] [(.int ln)])) _
      refine XS.iloadN X3.here hx rfl (hb hby d5_12) rfl ?_
      exact k
    by_cases c13 : ln = p2
    · obtain ⟨T5, X5, e5, st5⟩ := getF X3 hx hZ hown (host := "") (Or.inl (hw _ (List.mem_of_getElem? (i := 26) rfl))) Via.refl e3 F2 (g := (mkF m 17 #[.val (.ref a1), .val (.int p2), .val (.int p3)] [(.ref a1)])) rfl rfl (hb hby d5_17)
      have pre6 : ∀ t, Steps p.tables e below (T5.setTop (mkF m 21 #[.val (.ref a1), .val (.int p2), .val (.int p3)] [(.int p3), (.int cl)])) t → Steps p.tables e below (s₁.setTop (entryFrame m #[(.ref a1), (.int p2), (.int p3)] 3)) t := by
        intro t k
        refine pre4 t ?_
        show Steps p.tables e below (T3.setTop (mkF m 13 #[.val (.ref a1), .val (.int p2), .val (.int p3)] [(.int p2), (.int ln)])) _
        refine XS.icmpNo X3.here hx rfl (hb hby d5_13) rfl (teq c13).2 ?_
        show Steps p.tables e below (T3.setTop (mkF m 16 #[.val (.ref a1), .val (.int p2), .val (.int p3)] [])) _
        refine XS.aloadN X3.here hx rfl (hb hby d5_16) rfl rfl ?_
        show Steps p.tables e below (T3.setTop (mkF m 17 #[.val (.ref a1), .val (.int p2), .val (.int p3)] [(.ref a1)])) _
        refine st5 _ ?_
        show Steps p.tables e below (T5.setTop (mkF m 20 #[.val (.ref a1), .val (.int p2), .val (.int p3)] [(.int cl)])) _
        refine XS.iloadN X5.here hx rfl (hb hby d5_20) rfl ?_
        exact k
      by_cases c21 : p3 < cl
      · obtain ⟨fs, hr, hrun, hended, hW, hsame⟩ := X5.leave (v := some (.int (0 : Int32))) (fun h => by rw [Bd.returns] at h; cases h) (hlocks := BodyLoose.notSynchronized Bd)
        refine ⟨_, _, pre6 _ ?_, hrun, hended, _, _, rfl, ?_, ⟨_, rfl⟩, hW, hsame.mono (by decide) (by decide)⟩
        · show Steps p.tables e below (T5.setTop (mkF m 21 #[.val (.ref a1), .val (.int p2), .val (.int p3)] [(.int p3), (.int cl)])) _
          refine XS.icmpYes X5.here hx rfl (pc0 := 21) (pc' := 28) rfl (hb hby d5_21) rfl (tlt c21).2.2.1 (by decide) (by decide) ?_
          show Steps p.tables e below (T5.setTop (mkF m 28 #[.val (.ref a1), .val (.int p2), .val (.int p3)] [])) _
          refine XS.iconst X5.here hx rfl (hb hby d5_28) ?_
          show Steps p.tables e below (T5.setTop (mkF m 29 #[.val (.ref a1), .val (.int p2), .val (.int p3)] [(.int (0 : Int32))])) _
          exact retN X5 hx (t := .boolean) Bd.returns (by simp) (hb hby d5_29) hr
        · show Qe Z a1 p2 p3 ln cl h0 n0 _ T5.heap _
          rw [e5]
          exact ⟨⟨_, rfl, Or.inr ⟨rfl, c5, fun _ => c21⟩⟩, N0, rfl⟩
      · obtain ⟨fs, hr, hrun, hended, hW, hsame⟩ := X5.leave (v := some (.int (1 : Int32))) (fun h => by rw [Bd.returns] at h; cases h) (hlocks := BodyLoose.notSynchronized Bd)
        refine ⟨_, _, pre6 _ ?_, hrun, hended, _, _, rfl, ?_, ⟨_, rfl⟩, hW, hsame.mono (by decide) (by decide)⟩
        · show Steps p.tables e below (T5.setTop (mkF m 21 #[.val (.ref a1), .val (.int p2), .val (.int p3)] [(.int p3), (.int cl)])) _
          refine XS.icmpNo X5.here hx rfl (hb hby d5_21) rfl (flt c21).2.2.1 ?_
          show Steps p.tables e below (T5.setTop (mkF m 24 #[.val (.ref a1), .val (.int p2), .val (.int p3)] [])) _
          refine XS.iconst X5.here hx rfl (hb hby d5_24) ?_
          show Steps p.tables e below (T5.setTop (mkF m 25 #[.val (.ref a1), .val (.int p2), .val (.int p3)] [(.int (1 : Int32))])) _
          refine XS.goto X5.here hx rfl (pc0 := 25) (pc' := 29) rfl (hb hby d5_25) (by decide) (by decide) ?_
          show Steps p.tables e below (T5.setTop (mkF m 29 #[.val (.ref a1), .val (.int p2), .val (.int p3)] [(.int (1 : Int32))])) _
          exact retN X5 hx (t := .boolean) Bd.returns (by simp) (hb hby d5_29) hr
        · show Qe Z a1 p2 p3 ln cl h0 n0 _ T5.heap _
          rw [e5]
          exact ⟨⟨_, rfl, Or.inl ⟨rfl, Or.inr ⟨c13, c21⟩⟩⟩, N0, rfl⟩
    · obtain ⟨fs, hr, hrun, hended, hW, hsame⟩ := X3.leave (v := some (.int (0 : Int32))) (fun h => by rw [Bd.returns] at h; cases h) (hlocks := BodyLoose.notSynchronized Bd)
      refine ⟨_, _, pre4 _ ?_, hrun, hended, _, _, rfl, ?_, ⟨_, rfl⟩, hW, hsame.mono (by decide) (by decide)⟩
      · show Steps p.tables e below (T3.setTop (mkF m 13 #[.val (.ref a1), .val (.int p2), .val (.int p3)] [(.int p2), (.int ln)])) _
        refine XS.icmpYes X3.here hx rfl (pc0 := 13) (pc' := 28) rfl (hb hby d5_13) rfl (feq c13).2 (by decide) (by decide) ?_
        show Steps p.tables e below (T3.setTop (mkF m 28 #[.val (.ref a1), .val (.int p2), .val (.int p3)] [])) _
        refine XS.iconst X3.here hx rfl (hb hby d5_28) ?_
        show Steps p.tables e below (T3.setTop (mkF m 29 #[.val (.ref a1), .val (.int p2), .val (.int p3)] [(.int (0 : Int32))])) _
        exact retN X3 hx (t := .boolean) Bd.returns (by simp) (hb hby d5_29) hr
      · show Qe Z a1 p2 p3 ln cl h0 n0 _ T3.heap _
        rw [e3]
        exact ⟨⟨_, rfl, Or.inr ⟨rfl, c5, fun z => absurd z c13⟩⟩, N0, rfl⟩
def Q0 (Z : State) (l1 c1 l2 c2 f : Int32) (h0 : Heap) (n0 : Nat) (v : Option Value) (h : Heap) (L : List Loc) : Prop := v = some (.int (1 : Int32)) ∧ Fr n0 L
theorem pd_1 : parseMethodDescriptor "(Ljava/lang/String;II)V" = some ⟨[(.object "java/lang/String"), .int, .int], none⟩ := by decide +kernel
theorem pd_2 : parseMethodDescriptor "(II)J" = some ⟨[.int, .int], some .long⟩ := by decide +kernel
theorem pd_3 : parseMethodDescriptor "(II)Z" = some ⟨[.int, .int], some .boolean⟩ := by decide +kernel
theorem ef_0 (m : MethodId) (l1 : Int32) (c1 : Int32) (l2 : Int32) (c2 : Int32) (f : Int32) : entryFrame m #[(.int l1), (.int c1), (.int l2), (.int c2), (.int f)] maxLocals = mkF m 0 #[.val (.int l1), .val (.int c1), .val (.int l2), .val (.int c2), .val (.int f), .unset, .unset, .unset, .unset] [] := by first | (simp [entryFrame, mkF, argsToLocals, Value.category, maxLocals]; done) | rfl
set_option maxRecDepth 65536 in
set_option maxHeartbeats 40000000 in
theorem rm0 (l : Launch) (Z : State) (a0 : Array Value) (hw : ∀ d ∈ tables_1, d.before a0 Z = true) (ws : List Jvm.Cond) (l1 : Int32) (c1 : Int32) (l2 : Int32) (c2 : Int32) (f : Int32)  (h0 : Heap) (n0 : Nat) (Z0 : n0 ≤ h0.size)  :
    MetFree l x (head1 (Jvm.Cond.code x code maxLocals ret :: ws) room_1) (fun a U => a = #[(.int l1), (.int c1), (.int l2), (.int c2), (.int f)] ∧ Z.Warmed39 U.vm ∧ U.heap = h0) (fun _ _ _ _ _ => True) (fun _ U o U' => ∃ v L, o = .returned v ∧ Q0 Z l1 c1 l2 c2 f h0 n0 v U'.heap L ∧ ReturnedEndW U o U' L room_1.cells room_1.slots) := by
  refine MetFree.of_bodySF (plainFor_of_name pn_2) hisR ?_
  intro p e s m args below meth c s₁ Bd hml0 hP hK
  obtain ⟨rfl, hZ, hh⟩ := hP
  have hx := Bd.exec
  have hby := Bd.bytes
  have hml : c.maxLocals = 9 := hml0
  have hown : s.vm.findClass "com/example/tendril/tendril/store/ReferenceEndsByPinLaw" = some m.cls := findClass_of_methodNamed Bd.named
  have hnm := (name_of_methodNamed Bd.named Bd.method).1
  have X0 : Stand p l e room_1 s m #[(.int l1), (.int c1), (.int l2), (.int c2), (.int f)] below meth c s₁ [] 0 0 := Stand.of_body Bd
  have e0 : s₁.heap = h0 := by rw [← hh, Bd.state]; rfl
  have N0 := Fr.nil n0
  have pre0 : ∀ t, Steps p.tables e below (s₁.setTop (mkF m 0 #[.val (.int l1), .val (.int c1), .val (.int l2), .val (.int c2), .val (.int f), .unset, .unset, .unset, .unset] [])) t → Steps p.tables e below (s₁.setTop (entryFrame m #[(.int l1), (.int c1), (.int l2), (.int c2), (.int f)] maxLocals)) t := fun t k => castTop (ef_0 m l1 c1 l2 c2 f) k
  have pre1 : ∀ t, Steps p.tables e below (s₁.setTop (mkF m 4 #[.val (.int l1), .val (.int c1), .val (.int l2), .val (.int c2), .val (.int f), .unset, .unset, .unset, .unset] [(.int (f &&& (1 : Int32)))])) t → Steps p.tables e below (s₁.setTop (entryFrame m #[(.int l1), (.int c1), (.int l2), (.int c2), (.int f)] maxLocals)) t := by
    intro t k
    refine pre0 t ?_
    show Steps p.tables e below (s₁.setTop (mkF m 0 #[.val (.int l1), .val (.int c1), .val (.int l2), .val (.int c2), .val (.int f), .unset, .unset, .unset, .unset] [])) _
    refine XS.iload X0.here hx rfl (hb hby at_0) rfl ?_
    show Steps p.tables e below (s₁.setTop (mkF m 2 #[.val (.int l1), .val (.int c1), .val (.int l2), .val (.int c2), .val (.int f), .unset, .unset, .unset, .unset] [(.int f)])) _
    refine XS.iconst X0.here hx rfl (hb hby at_2) ?_
    show Steps p.tables e below (s₁.setTop (mkF m 3 #[.val (.int l1), .val (.int c1), .val (.int l2), .val (.int c2), .val (.int f), .unset, .unset, .unset, .unset] [(.int (1 : Int32)), (.int f)])) _
    refine XS.iand X0.here hx rfl (hb hby at_3) rfl ?_
    exact k
  obtain ⟨ln, pre2⟩ : ∃ (ln : Int32), ∀ t, Steps p.tables e below (s₁.setTop (mkF m 12 #[.val (.int l1), .val (.int c1), .val (.int l2), .val (.int c2), .val (.int f), .unset, .unset, .unset, .unset] [(.int ln)])) t → Steps p.tables e below (s₁.setTop (entryFrame m #[(.int l1), (.int c1), (.int l2), (.int c2), (.int f)] maxLocals)) t := by
    by_cases c4 : (f &&& (1 : Int32)) = (0 : Int32)
    · refine ⟨l2, fun t k => pre1 t ?_⟩
      show Steps p.tables e below (s₁.setTop (mkF m 4 #[.val (.int l1), .val (.int c1), .val (.int l2), .val (.int c2), .val (.int f), .unset, .unset, .unset, .unset] [(.int (f &&& (1 : Int32)))])) _
      refine XS.ifYes X0.here hx rfl (pc0 := 4) (pc' := 11) rfl (hb hby at_4) rfl ((if0 _ _).trans (teq c4).1) (by decide) (by decide) ?_
      show Steps p.tables e below (s₁.setTop (mkF m 11 #[.val (.int l1), .val (.int c1), .val (.int l2), .val (.int c2), .val (.int f), .unset, .unset, .unset, .unset] [])) _
      refine XS.iloadN X0.here hx rfl (hb hby at_11) rfl ?_
      exact k
    · refine ⟨l1, fun t k => pre1 t ?_⟩
      show Steps p.tables e below (s₁.setTop (mkF m 4 #[.val (.int l1), .val (.int c1), .val (.int l2), .val (.int c2), .val (.int f), .unset, .unset, .unset, .unset] [(.int (f &&& (1 : Int32)))])) _
      refine XS.ifNo X0.here hx rfl (hb hby at_4) rfl ((if0 _ _).trans (feq c4).1) ?_
      show Steps p.tables e below (s₁.setTop (mkF m 7 #[.val (.int l1), .val (.int c1), .val (.int l2), .val (.int c2), .val (.int f), .unset, .unset, .unset, .unset] [])) _
      refine XS.iloadN X0.here hx rfl (hb hby at_7) rfl ?_
      show Steps p.tables e below (s₁.setTop (mkF m 8 #[.val (.int l1), .val (.int c1), .val (.int l2), .val (.int c2), .val (.int f), .unset, .unset, .unset, .unset] [(.int l1)])) _
      refine XS.goto X0.here hx rfl (pc0 := 8) (pc' := 12) rfl (hb hby at_8) (by decide) (by decide) ?_
      exact k
  have pre3 : ∀ t, Steps p.tables e below (s₁.setTop (mkF m 18 #[.val (.int l1), .val (.int c1), .val (.int l2), .val (.int c2), .val (.int f), .val (.int ln), .unset, .unset, .unset] [(.int (f &&& (2 : Int32)))])) t → Steps p.tables e below (s₁.setTop (entryFrame m #[(.int l1), (.int c1), (.int l2), (.int c2), (.int f)] maxLocals)) t := by
    intro t k
    refine pre2 t ?_
    show Steps p.tables e below (s₁.setTop (mkF m 12 #[.val (.int l1), .val (.int c1), .val (.int l2), .val (.int c2), .val (.int f), .unset, .unset, .unset, .unset] [(.int ln)])) _
    refine XS.istore X0.here hx rfl (hb hby at_12) rfl (l' := #[.val (.int l1), .val (.int c1), .val (.int l2), .val (.int c2), .val (.int f), .val (.int ln), .unset, .unset, .unset]) rfl ?_
    show Steps p.tables e below (s₁.setTop (mkF m 14 #[.val (.int l1), .val (.int c1), .val (.int l2), .val (.int c2), .val (.int f), .val (.int ln), .unset, .unset, .unset] [])) _
    refine XS.iload X0.here hx rfl (hb hby at_14) rfl ?_
    show Steps p.tables e below (s₁.setTop (mkF m 16 #[.val (.int l1), .val (.int c1), .val (.int l2), .val (.int c2), .val (.int f), .val (.int ln), .unset, .unset, .unset] [(.int f)])) _
    refine XS.iconst X0.here hx rfl (hb hby at_16) ?_
    show Steps p.tables e below (s₁.setTop (mkF m 17 #[.val (.int l1), .val (.int c1), .val (.int l2), .val (.int c2), .val (.int f), .val (.int ln), .unset, .unset, .unset] [(.int (2 : Int32)), (.int f)])) _
    refine XS.iand X0.here hx rfl (hb hby at_17) rfl ?_
    exact k
  obtain ⟨cl, pre4⟩ : ∃ (cl : Int32), ∀ t, Steps p.tables e below (s₁.setTop (mkF m 26 #[.val (.int l1), .val (.int c1), .val (.int l2), .val (.int c2), .val (.int f), .val (.int ln), .unset, .unset, .unset] [(.int cl)])) t → Steps p.tables e below (s₁.setTop (entryFrame m #[(.int l1), (.int c1), (.int l2), (.int c2), (.int f)] maxLocals)) t := by
    by_cases c18 : (f &&& (2 : Int32)) = (0 : Int32)
    · refine ⟨c2, fun t k => pre3 t ?_⟩
      show Steps p.tables e below (s₁.setTop (mkF m 18 #[.val (.int l1), .val (.int c1), .val (.int l2), .val (.int c2), .val (.int f), .val (.int ln), .unset, .unset, .unset] [(.int (f &&& (2 : Int32)))])) _
      refine XS.ifYes X0.here hx rfl (pc0 := 18) (pc' := 25) rfl (hb hby at_18) rfl ((if0 _ _).trans (teq c18).1) (by decide) (by decide) ?_
      show Steps p.tables e below (s₁.setTop (mkF m 25 #[.val (.int l1), .val (.int c1), .val (.int l2), .val (.int c2), .val (.int f), .val (.int ln), .unset, .unset, .unset] [])) _
      refine XS.iloadN X0.here hx rfl (hb hby at_25) rfl ?_
      exact k
    · refine ⟨c1, fun t k => pre3 t ?_⟩
      show Steps p.tables e below (s₁.setTop (mkF m 18 #[.val (.int l1), .val (.int c1), .val (.int l2), .val (.int c2), .val (.int f), .val (.int ln), .unset, .unset, .unset] [(.int (f &&& (2 : Int32)))])) _
      refine XS.ifNo X0.here hx rfl (hb hby at_18) rfl ((if0 _ _).trans (feq c18).1) ?_
      show Steps p.tables e below (s₁.setTop (mkF m 21 #[.val (.int l1), .val (.int c1), .val (.int l2), .val (.int c2), .val (.int f), .val (.int ln), .unset, .unset, .unset] [])) _
      refine XS.iloadN X0.here hx rfl (hb hby at_21) rfl ?_
      show Steps p.tables e below (s₁.setTop (mkF m 22 #[.val (.int l1), .val (.int c1), .val (.int l2), .val (.int c2), .val (.int f), .val (.int ln), .unset, .unset, .unset] [(.int c1)])) _
      refine XS.goto X0.here hx rfl (pc0 := 22) (pc' := 26) rfl (hb hby at_22) (by decide) (by decide) ?_
      exact k
  obtain ⟨T5, h5, X5, e5, E5, A5, D5, -, st5⟩ := newO X0 hx hZ hown (hw _ (List.mem_of_getElem? (i := 0) rfl)) (hw _ (List.mem_of_getElem? (i := 1) rfl)) (hw _ (List.mem_of_getElem? (i := 2) rfl)) e0 (g := (mkF m 28 #[.val (.int l1), .val (.int c1), .val (.int l2), .val (.int c2), .val (.int f), .val (.int ln), .val (.int cl), .unset, .unset] [])) rfl (hb hby at_28) (by decide) (by decide)
  obtain ⟨b5, g5⟩ : ∃ z, z = h0.size := ⟨_, rfl⟩
  rw [← g5] at A5 D5 st5
  have F_entity_b5 : Fld Z h5 b5 "com/example/tendril/tendril/store/AttributeReferenceReader$Reference" "entity" "Ljava/lang/String;" .null := D5 (Or.inr (hw _ (List.mem_of_getElem? (i := 23) rfl))) (ty := (.object "java/lang/String")) (by decide)
  have F_line_b5 : Fld Z h5 b5 "com/example/tendril/tendril/store/AttributeReferenceReader$Reference" "line" "I" (.int (0 : Int32)) := D5 (Or.inr (hw _ (List.mem_of_getElem? (i := 25) rfl))) (ty := .int) (by decide)
  have F_column_b5 : Fld Z h5 b5 "com/example/tendril/tendril/store/AttributeReferenceReader$Reference" "column" "I" (.int (0 : Int32)) := D5 (Or.inr (hw _ (List.mem_of_getElem? (i := 27) rfl))) (ty := .int) (by decide)
  have E_b5 := A5
  have Zn : n0 ≤ h5.size := Nat.le_trans Z0 E5.1
  have gb : n0 ≤ b5 := Nat.le_trans Z0 (Nat.le_of_eq g5.symm)
  have wS : ∀ d ∈ Bundle.stringAtoms, d.before a0 Z = true := by
    intro d hd
    simp only [Bundle.stringAtoms, List.mem_cons, List.not_mem_nil, or_false] at hd
    rcases hd with rfl | rfl | rfl | rfl | rfl | rfl | rfl
    · exact (hw _ (List.mem_of_getElem? (i := 4) rfl))
    · exact (hw _ (List.mem_of_getElem? (i := 5) rfl))
    · exact (hw _ (List.mem_of_getElem? (i := 6) rfl))
    · exact (hw _ (List.mem_of_getElem? (i := 7) rfl))
    · exact (hw _ (List.mem_of_getElem? (i := 8) rfl))
    · exact (hw _ (List.mem_of_getElem? (i := 9) rfl))
    · exact (hw _ (List.mem_of_getElem? (i := 10) rfl))
  have Xw : Stand p l e room_1 (s.setVm s.vm) m #[(.int l1), (.int c1), (.int l2), (.int c2), (.int f)] below meth c T5 _ 1 3 := X5
  obtain ⟨ls6, T6, h6, kw, X6, e6, E6, hSw, hkw, hZw, hownw, st6⟩ := ldcS Xw hx hZ (own := "com/example/tendril/tendril/store/ReferenceEndsByPinLaw") (text := "e") hown (hw _ (List.mem_of_getElem? (i := 3) rfl)) wS e5 ((State.WarmedH.refl s).since 0) (Nat.zero_le _) (g := (mkF m 32 #[.val (.int l1), .val (.int c1), .val (.int l2), .val (.int c2), .val (.int f), .val (.int ln), .val (.int cl), .unset, .unset] [(.ref b5), (.ref b5)])) rfl (hb hby at_32) (n := 4) (by decide) (by decide) (by decide) (by decide)
  have hZ := hZw
  have hown := hownw
  have Zk : n0 ≤ h6.size := Nat.le_trans Zn E6.1
  obtain ⟨_, _, ⟨T7, L7, k7, n7⟩, -, X7, ⟨Lc7, hQ7, l7, y7, z7⟩, st7⟩ := X6.specialBack hx (y := (⟨"com/example/tendril/tendril/store/AttributeReferenceReader$Reference", "<init>", "(Ljava/lang/String;II)V"⟩ : MethodName)) rfl hown (mvT hZ (hw _ (List.mem_of_getElem? (i := 11) rfl))) (mvT hZ (hw _ (List.mem_of_getElem? (i := 12) rfl))) (mvT hZ (hw _ (List.mem_of_getElem? (i := 13) rfl))) (by decide) (backOf (W := 1) (rmI l Z a0 hw [] b5 ls6 l1 c1 .null (.int (0 : Int32)) (.int (0 : Int32)) h6 n0 Zk (E_b5.ext E6) (F_entity_b5.ext E6) (F_line_b5.ext E6) (F_column_b5.ext E6) gb) hZ (hw _ (List.mem_of_getElem? (i := 13) rfl)) (hw _ (List.mem_of_getElem? (i := 2) rfl)) (by decide) (by decide)) (g := (mkF m 36 #[.val (.int l1), .val (.int c1), .val (.int l2), .val (.int c2), .val (.int f), .val (.int ln), .val (.int cl), .unset, .unset] [(.int c1), (.int l1), (.ref ls6), (.ref b5), (.ref b5)])) rfl (by rw [hml]; rfl) (Steps.refl _) (a := b5) (argsL := [(.ref ls6), (.int l1), (.int c1)]) (rest := [(.ref b5)]) (lenOf pd_1 rfl) rfl (by show 2 * 0 + _ ≤ _; exact Nat.le_of_eq rfl) (hb hby at_36) (fun _ _ => ⟨rfl, e6, (by decide : 3 + 0 ≤ _), (by decide : 11 + 0 ≤ _)⟩)
  dsimp only [Pt.U, Pt.locs, Pt.cells, Pt.slots] at X7 l7 y7 z7 st7 hQ7
  subst l7 y7 z7
  obtain ⟨rfl, N7q, K1, E1, F1, F2⟩ := hQ7
  have N7 := Fr.app N0 N7q
  have Z1 : n0 ≤ T7.heap.size := Nat.le_trans Zk K1.1
  have kw1 : kw ≤ T7.heap.size := Nat.le_trans hkw K1.1
  obtain ⟨_, _, ⟨T8, L8, k8, n8⟩, -, X8, ⟨Lc8, hQ8, l8, y8, z8⟩, st8⟩ := Jvm.LawKit.callS X7 hx (y := (⟨"com/example/tendril/tendril/store/ReferenceEndsByPinLaw", "key", "(II)J"⟩ : MethodName)) hown (mvT hZ (hw _ (List.mem_of_getElem? (i := 28) rfl))) (mvT hZ (hw _ (List.mem_of_getElem? (i := 29) rfl))) (mvT hZ (hw _ (List.mem_of_getElem? (i := 30) rfl))) (mvT hZ (hw _ (List.mem_of_getElem? (i := 31) rfl))) (by decide) (backOf (W := 0) (rmK l Z a0 hw [] l1 c1 T7.heap n0 Z1) hZ (hw _ (List.mem_of_getElem? (i := 31) rfl)) (hw _ (List.mem_of_getElem? (i := 30) rfl)) (by decide) (by decide)) (g := (mkF m 43 #[.val (.int l1), .val (.int c1), .val (.int l2), .val (.int c2), .val (.int f), .val (.int ln), .val (.int cl), .val (.ref b5), .unset] [(.int c1), (.int l1)])) rfl (by rw [hml]; rfl) (argsL := [(.int l1), (.int c1)]) (rest := []) (lenOf pd_2 rfl) rfl (by show 2 * 0 + _ ≤ _; exact Nat.le_of_eq rfl) (hb hby at_43) (fun _ _ => ⟨rfl, rfl, (by decide : 3 + 0 ≤ _), (by decide : 11 + 0 ≤ _)⟩)
  dsimp only [Pt.U, Pt.locs, Pt.cells, Pt.slots] at X8 l8 y8 z8 st8 hQ8
  subst l8 y8 z8
  obtain ⟨rfl, N8q, e8⟩ := hQ8
  have N8 := Fr.app N7 N8q
  obtain ⟨_, _, ⟨T9, L9, k9, n9⟩, -, X9, ⟨Lc9, hQ9, l9, y9, z9⟩, st9⟩ := Jvm.LawKit.callS X8 hx (y := (⟨"com/example/tendril/tendril/store/ReferenceEndsByPinLaw", "key", "(II)J"⟩ : MethodName)) hown (mvT hZ (hw _ (List.mem_of_getElem? (i := 28) rfl))) (mvT hZ (hw _ (List.mem_of_getElem? (i := 29) rfl))) (mvT hZ (hw _ (List.mem_of_getElem? (i := 30) rfl))) (mvT hZ (hw _ (List.mem_of_getElem? (i := 31) rfl))) (by decide) (backOf (W := 2) (rmK l Z a0 hw [] ln cl T7.heap n0 Z1) hZ (hw _ (List.mem_of_getElem? (i := 31) rfl)) (hw _ (List.mem_of_getElem? (i := 30) rfl)) (by decide) (by decide)) (g := (mkF m 50 #[.val (.int l1), .val (.int c1), .val (.int l2), .val (.int c2), .val (.int f), .val (.int ln), .val (.int cl), .val (.ref b5), .unset] [(.int cl), (.int ln), (.long (own_key l1 c1))])) rfl (by rw [hml]; rfl) (argsL := [(.int ln), (.int cl)]) (rest := [(.long (own_key l1 c1))]) (lenOf pd_2 rfl) rfl (by show 2 * 0 + _ ≤ _; exact Nat.le_of_eq rfl) (hb hby at_50) (fun _ _ => ⟨rfl, e8, (by decide : 3 + 0 ≤ _), (by decide : 11 + 0 ≤ _)⟩)
  dsimp only [Pt.U, Pt.locs, Pt.cells, Pt.slots] at X9 l9 y9 z9 st9 hQ9
  subst l9 y9 z9
  obtain ⟨rfl, N9q, e9⟩ := hQ9
  have N9 := Fr.app N8 N9q
  have pre10 : ∀ t, Steps p.tables e below (T9.setTop (mkF m 54 #[.val (.int l1), .val (.int c1), .val (.int l2), .val (.int c2), .val (.int f), .val (.int ln), .val (.int cl), .val (.ref b5), .unset] [(.int (lcmpW (own_key l1 c1) (own_key ln cl)))])) t → Steps p.tables e below (s₁.setTop (entryFrame m #[(.int l1), (.int c1), (.int l2), (.int c2), (.int f)] maxLocals)) t := by
    intro t k
    refine pre4 t ?_
    show Steps p.tables e below (s₁.setTop (mkF m 26 #[.val (.int l1), .val (.int c1), .val (.int l2), .val (.int c2), .val (.int f), .val (.int ln), .unset, .unset, .unset] [(.int cl)])) _
    refine XS.istore X0.here hx rfl (hb hby at_26) rfl (l' := #[.val (.int l1), .val (.int c1), .val (.int l2), .val (.int c2), .val (.int f), .val (.int ln), .val (.int cl), .unset, .unset]) rfl ?_
    show Steps p.tables e below (s₁.setTop (mkF m 28 #[.val (.int l1), .val (.int c1), .val (.int l2), .val (.int c2), .val (.int f), .val (.int ln), .val (.int cl), .unset, .unset] [])) _
    refine st5 _ ?_
    show Steps p.tables e below (T5.setTop (mkF m 31 #[.val (.int l1), .val (.int c1), .val (.int l2), .val (.int c2), .val (.int f), .val (.int ln), .val (.int cl), .unset, .unset] [(.ref b5)])) _
    refine XS.dup X5.here hx rfl (hb hby at_31) rfl rfl ?_
    show Steps p.tables e below (T5.setTop (mkF m 32 #[.val (.int l1), .val (.int c1), .val (.int l2), .val (.int c2), .val (.int f), .val (.int ln), .val (.int cl), .unset, .unset] [(.ref b5), (.ref b5)])) _
    refine st6 _ ?_
    show Steps p.tables e below (T6.setTop (mkF m 34 #[.val (.int l1), .val (.int c1), .val (.int l2), .val (.int c2), .val (.int f), .val (.int ln), .val (.int cl), .unset, .unset] [(.ref ls6), (.ref b5), (.ref b5)])) _
    refine XS.iloadN X6.here hx rfl (hb hby at_34) rfl ?_
    show Steps p.tables e below (T6.setTop (mkF m 35 #[.val (.int l1), .val (.int c1), .val (.int l2), .val (.int c2), .val (.int f), .val (.int ln), .val (.int cl), .unset, .unset] [(.int l1), (.ref ls6), (.ref b5), (.ref b5)])) _
    refine XS.iloadN X6.here hx rfl (hb hby at_35) rfl ?_
    show Steps p.tables e below (T6.setTop (mkF m 36 #[.val (.int l1), .val (.int c1), .val (.int l2), .val (.int c2), .val (.int f), .val (.int ln), .val (.int cl), .unset, .unset] [(.int c1), (.int l1), (.ref ls6), (.ref b5), (.ref b5)])) _
    refine st7.trans ?_
    show Steps p.tables e below (T7.setTop (mkF m 39 #[.val (.int l1), .val (.int c1), .val (.int l2), .val (.int c2), .val (.int f), .val (.int ln), .val (.int cl), .unset, .unset] [(.ref b5)])) _
    refine XS.astore X7.here hx rfl (hb hby at_39) rfl rfl (l' := #[.val (.int l1), .val (.int c1), .val (.int l2), .val (.int c2), .val (.int f), .val (.int ln), .val (.int cl), .val (.ref b5), .unset]) rfl ?_
    show Steps p.tables e below (T7.setTop (mkF m 41 #[.val (.int l1), .val (.int c1), .val (.int l2), .val (.int c2), .val (.int f), .val (.int ln), .val (.int cl), .val (.ref b5), .unset] [])) _
    refine XS.iloadN X7.here hx rfl (hb hby at_41) rfl ?_
    show Steps p.tables e below (T7.setTop (mkF m 42 #[.val (.int l1), .val (.int c1), .val (.int l2), .val (.int c2), .val (.int f), .val (.int ln), .val (.int cl), .val (.ref b5), .unset] [(.int l1)])) _
    refine XS.iloadN X7.here hx rfl (hb hby at_42) rfl ?_
    show Steps p.tables e below (T7.setTop (mkF m 43 #[.val (.int l1), .val (.int c1), .val (.int l2), .val (.int c2), .val (.int f), .val (.int ln), .val (.int cl), .val (.ref b5), .unset] [(.int c1), (.int l1)])) _
    refine st8 _ ?_
    show Steps p.tables e below (T8.setTop (mkF m 46 #[.val (.int l1), .val (.int c1), .val (.int l2), .val (.int c2), .val (.int f), .val (.int ln), .val (.int cl), .val (.ref b5), .unset] [(.long (own_key l1 c1))])) _
    refine XS.iload X8.here hx rfl (hb hby at_46) rfl ?_
    show Steps p.tables e below (T8.setTop (mkF m 48 #[.val (.int l1), .val (.int c1), .val (.int l2), .val (.int c2), .val (.int f), .val (.int ln), .val (.int cl), .val (.ref b5), .unset] [(.int ln), (.long (own_key l1 c1))])) _
    refine XS.iload X8.here hx rfl (hb hby at_48) rfl ?_
    show Steps p.tables e below (T8.setTop (mkF m 50 #[.val (.int l1), .val (.int c1), .val (.int l2), .val (.int c2), .val (.int f), .val (.int ln), .val (.int cl), .val (.ref b5), .unset] [(.int cl), (.int ln), (.long (own_key l1 c1))])) _
    refine st9 _ ?_
    show Steps p.tables e below (T9.setTop (mkF m 53 #[.val (.int l1), .val (.int c1), .val (.int l2), .val (.int c2), .val (.int f), .val (.int ln), .val (.int cl), .val (.ref b5), .unset] [(.long (own_key ln cl)), (.long (own_key l1 c1))])) _
    refine XS.lcmp X9.here hx rfl (hb hby at_53) rfl ?_
    exact k
  obtain ⟨ex, hs11, pre11⟩ : ∃ (ex : Int32), ((ex = 1 ∧ ¬ own_key ln cl < own_key l1 c1) ∨ (ex = 0 ∧ own_key ln cl < own_key l1 c1)) ∧ ∀ t, Steps p.tables e below (T9.setTop (mkF m 62 #[.val (.int l1), .val (.int c1), .val (.int l2), .val (.int c2), .val (.int f), .val (.int ln), .val (.int cl), .val (.ref b5), .unset] [(.int ex)])) t → Steps p.tables e below (s₁.setTop (entryFrame m #[(.int l1), (.int c1), (.int l2), (.int c2), (.int f)] maxLocals)) t := by
    by_cases c54 : own_key ln cl < own_key l1 c1
    · refine ⟨0, Or.inr ⟨rfl, c54⟩, fun t k => pre10 t ?_⟩
      show Steps p.tables e below (T9.setTop (mkF m 54 #[.val (.int l1), .val (.int c1), .val (.int l2), .val (.int c2), .val (.int f), .val (.int ln), .val (.int cl), .val (.ref b5), .unset] [(.int (lcmpW (own_key l1 c1) (own_key ln cl)))])) _
      refine XS.ifYes X9.here hx rfl (pc0 := 54) (pc' := 61) rfl (hb hby at_54) rfl ((if0 _ _).trans (tlt ((lw_gt _ _).mpr c54)).2.2.1) (by decide) (by decide) ?_
      show Steps p.tables e below (T9.setTop (mkF m 61 #[.val (.int l1), .val (.int c1), .val (.int l2), .val (.int c2), .val (.int f), .val (.int ln), .val (.int cl), .val (.ref b5), .unset] [])) _
      refine XS.iconst X9.here hx rfl (hb hby at_61) ?_
      exact k
    · refine ⟨1, Or.inl ⟨rfl, c54⟩, fun t k => pre10 t ?_⟩
      show Steps p.tables e below (T9.setTop (mkF m 54 #[.val (.int l1), .val (.int c1), .val (.int l2), .val (.int c2), .val (.int f), .val (.int ln), .val (.int cl), .val (.ref b5), .unset] [(.int (lcmpW (own_key l1 c1) (own_key ln cl)))])) _
      refine XS.ifNo X9.here hx rfl (hb hby at_54) rfl ((if0 _ _).trans (flt (fun z => c54 ((lw_gt _ _).mp z))).2.2.1) ?_
      show Steps p.tables e below (T9.setTop (mkF m 57 #[.val (.int l1), .val (.int c1), .val (.int l2), .val (.int c2), .val (.int f), .val (.int ln), .val (.int cl), .val (.ref b5), .unset] [])) _
      refine XS.iconst X9.here hx rfl (hb hby at_57) ?_
      show Steps p.tables e below (T9.setTop (mkF m 58 #[.val (.int l1), .val (.int c1), .val (.int l2), .val (.int c2), .val (.int f), .val (.int ln), .val (.int cl), .val (.ref b5), .unset] [(.int (1 : Int32))])) _
      refine XS.goto X9.here hx rfl (pc0 := 58) (pc' := 62) rfl (hb hby at_58) (by decide) (by decide) ?_
      exact k
  obtain ⟨cq12, kq12, q12a, q12b, q12c⟩ := isOf hZ e9 E1
  obtain ⟨_, _, ⟨T12, L12, k12, n12⟩, -, X12, ⟨Lc12, hQ12, l12, y12, z12⟩, st12⟩ := X9.virtualBack hx (y := (⟨"com/example/tendril/tendril/store/AttributeReferenceReader$Reference", "endsBy", "(II)Z"⟩ : MethodName)) (z := (⟨"com/example/tendril/tendril/store/AttributeReferenceReader$Reference", "endsBy", "(II)Z"⟩ : MethodName)) hown (mvT hZ (hw _ (List.mem_of_getElem? (i := 33) rfl))) (mvT hZ (hw _ (List.mem_of_getElem? (i := 34) rfl))) (notFace_of_selects (args := #[]) (mvT hZ (hw _ (List.mem_of_getElem? (i := 36) rfl)))) (mvT hZ (hw _ (List.mem_of_getElem? (i := 36) rfl))) (mvT hZ (hw _ (List.mem_of_getElem? (i := 35) rfl))) (by decide) (backOf (W := 0) (rmE l Z a0 hw [] b5 ln cl l1 c1 T7.heap n0 Z1 F1 F2) hZ (hw _ (List.mem_of_getElem? (i := 37) rfl)) (hw _ (List.mem_of_getElem? (i := 2) rfl)) (by decide) (by decide)) q12a q12c (g := (mkF m 70 #[.val (.int l1), .val (.int c1), .val (.int l2), .val (.int c2), .val (.int f), .val (.int ln), .val (.int cl), .val (.ref b5), .val (.int ex)] [(.int cl), (.int ln), (.ref b5)])) rfl (by rw [hml]; rfl) (Steps.refl _) (argsL := [(.int ln), (.int cl)]) (rest := []) (lenOf pd_3 rfl) rfl (by show 2 * 0 + _ ≤ _; exact Nat.le_of_eq rfl) (hb hby at_70) (fun _ _ => ⟨rfl, e9, (by decide : 3 + 0 ≤ _), (by decide : 11 + 0 ≤ _)⟩)
  dsimp only [Pt.U, Pt.locs, Pt.cells, Pt.slots] at X12 l12 y12 z12 st12 hQ12
  subst l12 y12 z12
  obtain ⟨⟨r1, rfl, hr1⟩, N12q, e12⟩ := hQ12
  have N12 := Fr.app N9 N12q
  obtain ⟨cq13, kq13, q13a, q13b, q13c⟩ := isOf hZ e12 E1
  obtain ⟨_, _, ⟨T13, L13, k13, n13⟩, -, X13, ⟨Lc13, hQ13, l13, y13, z13⟩, st13⟩ := X12.virtualBack hx (y := (⟨"com/example/tendril/tendril/store/AttributeReferenceReader$Reference", "endsBy", "(II)Z"⟩ : MethodName)) (z := (⟨"com/example/tendril/tendril/store/AttributeReferenceReader$Reference", "endsBy", "(II)Z"⟩ : MethodName)) hown (mvT hZ (hw _ (List.mem_of_getElem? (i := 33) rfl))) (mvT hZ (hw _ (List.mem_of_getElem? (i := 34) rfl))) (notFace_of_selects (args := #[]) (mvT hZ (hw _ (List.mem_of_getElem? (i := 36) rfl)))) (mvT hZ (hw _ (List.mem_of_getElem? (i := 36) rfl))) (mvT hZ (hw _ (List.mem_of_getElem? (i := 35) rfl))) (by decide) (backOf (W := 0) (rmE l Z a0 hw [] b5 l1 c1 l1 c1 T7.heap n0 Z1 F1 F2) hZ (hw _ (List.mem_of_getElem? (i := 37) rfl)) (hw _ (List.mem_of_getElem? (i := 2) rfl)) (by decide) (by decide)) q13a q13c (g := (mkF m 82 #[.val (.int l1), .val (.int c1), .val (.int l2), .val (.int c2), .val (.int f), .val (.int ln), .val (.int cl), .val (.ref b5), .val (.int ex)] [(.int c1), (.int l1), (.ref b5)])) rfl (by rw [hml]; rfl) (Steps.refl _) (argsL := [(.int l1), (.int c1)]) (rest := []) (lenOf pd_3 rfl) rfl (by show 2 * 0 + _ ≤ _; exact Nat.le_of_eq rfl) (hb hby at_82) (fun _ _ => ⟨rfl, e12, (by decide : 3 + 0 ≤ _), (by decide : 11 + 0 ≤ _)⟩)
  dsimp only [Pt.U, Pt.locs, Pt.cells, Pt.slots] at X13 l13 y13 z13 st13 hQ13
  subst l13 y13 z13
  obtain ⟨⟨r2, rfl, hr2⟩, N13q, e13⟩ := hQ13
  have N13 := Fr.app N12 N13q
  obtain ⟨fs, hr, hrun, hended, hW0, hW1, hW2, hsame⟩ := X13.leaveW hSw (by rw [e13]; exact kw1) (v := some (.int (1 : Int32))) (fun h => by rw [Bd.returns] at h; cases h) (hlocks := BodyLoose.notSynchronized Bd)
  refine ⟨_, _, pre11 _ ?_, hrun, hended, _, _, rfl, ?_, hW0, hW1, hW2, hsame.mono (by decide) (by decide)⟩
  · show Steps p.tables e below (T9.setTop (mkF m 62 #[.val (.int l1), .val (.int c1), .val (.int l2), .val (.int c2), .val (.int f), .val (.int ln), .val (.int cl), .val (.ref b5), .unset] [(.int ex)])) _
    refine XS.istore X9.here hx rfl (hb hby at_62) rfl (l' := #[.val (.int l1), .val (.int c1), .val (.int l2), .val (.int c2), .val (.int f), .val (.int ln), .val (.int cl), .val (.ref b5), .val (.int ex)]) rfl ?_
    show Steps p.tables e below (T9.setTop (mkF m 64 #[.val (.int l1), .val (.int c1), .val (.int l2), .val (.int c2), .val (.int f), .val (.int ln), .val (.int cl), .val (.ref b5), .val (.int ex)] [])) _
    refine XS.aload X9.here hx rfl (hb hby at_64) rfl rfl ?_
    show Steps p.tables e below (T9.setTop (mkF m 66 #[.val (.int l1), .val (.int c1), .val (.int l2), .val (.int c2), .val (.int f), .val (.int ln), .val (.int cl), .val (.ref b5), .val (.int ex)] [(.ref b5)])) _
    refine XS.iload X9.here hx rfl (hb hby at_66) rfl ?_
    show Steps p.tables e below (T9.setTop (mkF m 68 #[.val (.int l1), .val (.int c1), .val (.int l2), .val (.int c2), .val (.int f), .val (.int ln), .val (.int cl), .val (.ref b5), .val (.int ex)] [(.int ln), (.ref b5)])) _
    refine XS.iload X9.here hx rfl (hb hby at_68) rfl ?_
    show Steps p.tables e below (T9.setTop (mkF m 70 #[.val (.int l1), .val (.int c1), .val (.int l2), .val (.int c2), .val (.int f), .val (.int ln), .val (.int cl), .val (.ref b5), .val (.int ex)] [(.int cl), (.int ln), (.ref b5)])) _
    refine st12.trans ?_
    show Steps p.tables e below (T12.setTop (mkF m 73 #[.val (.int l1), .val (.int c1), .val (.int l2), .val (.int c2), .val (.int f), .val (.int ln), .val (.int cl), .val (.ref b5), .val (.int ex)] [(.int r1)])) _
    refine XS.iload X12.here hx rfl (hb hby at_73) rfl ?_
    show Steps p.tables e below (T12.setTop (mkF m 75 #[.val (.int l1), .val (.int c1), .val (.int l2), .val (.int c2), .val (.int f), .val (.int ln), .val (.int cl), .val (.ref b5), .val (.int ex)] [(.int ex), (.int r1)])) _
    refine XS.icmpNo X12.here hx rfl (hb hby at_75) rfl (teq (own_ends l1 c1 ln cl r1 ex hr1 hs11)).2 ?_
    show Steps p.tables e below (T12.setTop (mkF m 78 #[.val (.int l1), .val (.int c1), .val (.int l2), .val (.int c2), .val (.int f), .val (.int ln), .val (.int cl), .val (.ref b5), .val (.int ex)] [])) _
    refine XS.aload X12.here hx rfl (hb hby at_78) rfl rfl ?_
    show Steps p.tables e below (T12.setTop (mkF m 80 #[.val (.int l1), .val (.int c1), .val (.int l2), .val (.int c2), .val (.int f), .val (.int ln), .val (.int cl), .val (.ref b5), .val (.int ex)] [(.ref b5)])) _
    refine XS.iloadN X12.here hx rfl (hb hby at_80) rfl ?_
    show Steps p.tables e below (T12.setTop (mkF m 81 #[.val (.int l1), .val (.int c1), .val (.int l2), .val (.int c2), .val (.int f), .val (.int ln), .val (.int cl), .val (.ref b5), .val (.int ex)] [(.int l1), (.ref b5)])) _
    refine XS.iloadN X12.here hx rfl (hb hby at_81) rfl ?_
    show Steps p.tables e below (T12.setTop (mkF m 82 #[.val (.int l1), .val (.int c1), .val (.int l2), .val (.int c2), .val (.int f), .val (.int ln), .val (.int cl), .val (.ref b5), .val (.int ex)] [(.int c1), (.int l1), (.ref b5)])) _
    refine st13.trans ?_
    show Steps p.tables e below (T13.setTop (mkF m 85 #[.val (.int l1), .val (.int c1), .val (.int l2), .val (.int c2), .val (.int f), .val (.int ln), .val (.int cl), .val (.ref b5), .val (.int ex)] [(.int r2)])) _
    refine XS.ifNo X13.here hx rfl (hb hby at_85) rfl ((if0 _ _).trans (feq (own_self l1 c1 r2 hr2)).1) ?_
    show Steps p.tables e below (T13.setTop (mkF m 88 #[.val (.int l1), .val (.int c1), .val (.int l2), .val (.int c2), .val (.int f), .val (.int ln), .val (.int cl), .val (.ref b5), .val (.int ex)] [])) _
    refine XS.iconst X13.here hx rfl (hb hby at_88) ?_
    show Steps p.tables e below (T13.setTop (mkF m 89 #[.val (.int l1), .val (.int c1), .val (.int l2), .val (.int c2), .val (.int f), .val (.int ln), .val (.int cl), .val (.ref b5), .val (.int ex)] [(.int (1 : Int32))])) _
    refine XS.goto X13.here hx rfl (pc0 := 89) (pc' := 93) rfl (hb hby at_89) (by decide) (by decide) ?_
    show Steps p.tables e below (T13.setTop (mkF m 93 #[.val (.int l1), .val (.int c1), .val (.int l2), .val (.int c2), .val (.int f), .val (.int ln), .val (.int cl), .val (.ref b5), .val (.int ex)] [(.int (1 : Int32))])) _
    exact retN X13 hx (t := .boolean) Bd.returns (by simp) (hb hby at_93) hr
  · show Q0 Z l1 c1 l2 c2 f h0 n0 _ T13.heap _
    rw [e13]
    exact ⟨rfl, N13⟩
set_option maxRecDepth 65536 in
set_option maxHeartbeats 40000000 in
theorem comes_1 {Post : Tables → Env → Array Value → State → Outcome → State → Prop} (hpost : ∀ tb e args s v u, (limb_1_1.after args s (.returned v) u = true ∧ limb_1_2.after args s (.returned v) u = true ∧ True) → ReturnedEndW s (.returned v) u (Jvm.fieldLocs frame_1_writes args s ++ Jvm.arrayLocs frame_1_arrays args s ++ Jvm.staticLocs frame_1_statics s) 16 1152 → Post tb e args s (.returned v) u) :
    ArmFor flags0 classFile x code maxLocals ret World_1 tables_1 room_1 Calls_1 rest_1 Pre_1 Post := by
  intro l hfl _ _ p e ha hc hk s m args below hf hA hF happ hP
  obtain ⟨hcalls, hrest, hpre⟩ := hP
  obtain ⟨-, -, -, hnamed, -, -, -, hat⟩ := (Spec.applies_iff hf).mp happ
  obtain ⟨hg, hn⟩ := and_e (Cond.before_iff.mp (show (Jvm.Cond.and given_1 narrow_1).before args s = true from hpre))
  obtain ⟨hcount, r0⟩ := and_e hg
  obtain ⟨v0, r1⟩ := and_e r0
  obtain ⟨v1, r2⟩ := and_e r1
  obtain ⟨v2, r3⟩ := and_e r2
  obtain ⟨v3, r4⟩ := and_e r3
  obtain ⟨w0, w1, w2, w3, w4, rfl⟩ : ∃ w0 w1 w2 w3 w4 : Value, args = #[w0, w1, w2, w3, w4] := by
    have hs : args.size = 5 := by simpa [Cond.value, given_1] using hcount
    obtain ⟨L⟩ := args
    match L, hs with
    | [w0, w1, w2, w3, w4], _ => exact ⟨w0, w1, w2, w3, w4, rfl⟩
  have hw := fun d (hd : d ∈ tables_1) => atoms_spec (ws := Jvm.Cond.code x code maxLocals ret :: tables_1) hat d (List.mem_cons_of_mem _ hd)
  obtain ⟨i0, ei0⟩ := is_v v0
  obtain rfl : w0 = (.int i0) := Option.some.inj ei0
  obtain ⟨i1, ei1⟩ := is_v v1
  obtain rfl : w1 = (.int i1) := Option.some.inj ei1
  obtain ⟨i2, ei2⟩ := is_v v2
  obtain rfl : w2 = (.int i2) := Option.some.inj ei2
  obtain ⟨i3, ei3⟩ := is_v v3
  obtain rfl : w3 = (.int i3) := Option.some.inj ei3
  obtain ⟨i4, ei4⟩ := is_v r4
  obtain rfl : w4 = (.int i4) := Option.some.inj ei4
  obtain ⟨n, o, h1, h2, h3, _, L, rfl, ⟨rfl, N⟩, hq⟩ := rm0 l s _ hw tables_1 i0 i1 i2 i3 i4 s.heap s.heap.size (Nat.le_refl _) p e ha hc hk s m _ below hf ((Spec.applies_iff_loose hf).mp happ).1 ⟨rfl, State.Warmed39.refl s, rfl⟩ trivial
  refine ⟨n, _, h1, h2, h3, hpost _ _ _ _ _ _ ⟨Cond.after_iff.mpr rfl, Cond.after_iff.mpr (eq_i res_at (Term.int_eval (1)) rfl), trivial⟩ ⟨hq.1, hq.2.1, hq.2.2.1, (hq.2.2.2.sift fun y hy => Or.inr (N y hy)).mono (by decide) (by decide)⟩⟩
theorem main_1_1 : Claimed_1_1 := comes_1 fun _ _ _ _ _ _ h hF => ⟨h.1, hF⟩
theorem main_1_2 : Claimed_1_2 := comes_1 fun _ _ _ _ _ _ h hF => ⟨h.2.1, hF⟩
end Jvm.Pilot.@@N@@
namespace Jvm.Pilot.@@N@@
open Jvm Jvm.ClassFile Sem Op Lib Jvm.Free Jvm.Stand Jvm.Pilot.@@N@@.Jvm.D
/-! MADE BY PROGRAM (witnessworld.py) out of the Statement's table words and the real class files: 15 classes; the members and pool entries that the words name. The judged class is class 1, her method 2. -/
namespace start1
open Jvm.ClassFile
def u (s : String) : CpInfo := .utf8 (stringToUtf16 s)
/-- a pool by its gaps: so many unusable entries, then the entry; so many at the end -/
def gap : Nat → List CpInfo → List CpInfo
  | 0, r => r
  | n + 1, r => .unusable :: gap n r
def poolList (es : List (Nat × CpInfo)) (last : Nat) : List CpInfo := es.foldr (fun e r => gap e.1 (e.2 :: r)) (gap last [])
def pool (es : List (Nat × CpInfo)) (last : Nat) : Array CpInfo := ⟨poolList es last⟩
def fileOf (pool : Array CpInfo) (this : Nat) (attrs : Array Attribute := #[]) (ms : Array MethodInfo := #[]) (fl : Nat := 33) (sup : Nat := 0) (ifs : Array Nat := #[]) (fds : Array FieldInfo := #[]) : ClassFile where
  minorVersion := 0
  majorVersion := 65
  constantPool := pool
  accessFlags := fl
  thisClass := this
  superClass := sup
  interfaces := ifs
  fields := fds
  methods := ms
  attributes := attrs
def plain (name : String) (sup : Option ClassId) : Class where
  name := name
  kind := .ordinary
  loader := none
  accessFlags := 33
  super := sup
  interfaces := #[]
  cf := none
  fields := #[]
  methods := #[]
  instanceTypes := #[]
  staticTypes := #[]
  resolved := #[]
  callSites := []
  init := .initialized
  statics := none
  mirror := none

def pool0 : Array CpInfo := pool [(5, u "<init>"), (0, u "()V"), (1, .class_ 10), (1, u "java/lang/Object")] 113

def k0c0 : Code := { maxStack := 0, maxLocals := 1, code := object_method_1_code, exceptionTable := #[], attributes := #[] }
def k0m0 : Method := { name := "<init>", desc := "()V", sig := { parameters := [], returnType := none }, accessFlags := 1, code := some k0c0 }
/-- java/lang/Object -/
def k0 : Class := { plain "java/lang/Object" none with
  accessFlags := 33
  interfaces := #[]
  cf := some (fileOf pool0 8 #[] #[{ accessFlags := 1, nameIndex := 5, descriptorIndex := 6, attributes := #[] }] 33 0 #[] #[])
  fields := #[]
  methods := #[k0m0]
  instanceTypes := #[]
  staticTypes := #[]
  resolved := Array.replicate 124 none
  statics := none }

def pool1 : Array CpInfo := pool [(2, .class_ 4), (1, u "java/lang/Object"), (0, u "<init>"), (0, u "()V"), (2, .long 18446744071562067968), (1, .class_ 12), (0, u "com/example/tendril/tendril/store/AttributeReferenceReader$Reference"), (0, .string 14), (0, u "e"), (0, .methodref 11 16), (0, .nameAndType 5 17), (0, u "(Ljava/lang/String;II)V"), (0, .methodref 19 20), (0, .class_ 21), (0, .nameAndType 22 23), (0, u "com/example/tendril/tendril/store/ReferenceEndsByPinLaw"), (0, u "key"), (0, u "(II)J"), (0, .methodref 11 25), (0, .nameAndType 26 27), (0, u "endsBy"), (0, u "(II)Z"), (2, u "law"), (0, u "(IIIII)Z")] 7

def k1m0 : Method := { name := "<init>", desc := "()V", sig := { parameters := [], returnType := none }, accessFlags := 1, code := none }
def k1c1 : Code := { maxStack := 6, maxLocals := 2, code := method_2_code, exceptionTable := #[], attributes := #[] }
def k1m1 : Method := { name := "key", desc := "(II)J", sig := { parameters := [.int, .int], returnType := some .long }, accessFlags := 10, code := some k1c1 }
def k1c2 : Code := { maxStack := 5, maxLocals := 9, code := code, exceptionTable := #[], attributes := #[] }
def k1m2 : Method := { name := "law", desc := "(IIIII)Z", sig := { parameters := [.int, .int, .int, .int, .int], returnType := some .boolean }, accessFlags := 9, code := some k1c2 }
/-- com/example/tendril/tendril/store/ReferenceEndsByPinLaw -/
def k1 : Class := { plain "com/example/tendril/tendril/store/ReferenceEndsByPinLaw" (some 0) with
  accessFlags := 49
  interfaces := #[]
  cf := some (fileOf pool1 19 #[] #[{ accessFlags := 1, nameIndex := 5, descriptorIndex := 6, attributes := #[] }, { accessFlags := 10, nameIndex := 22, descriptorIndex := 23, attributes := #[] }, { accessFlags := 9, nameIndex := 30, descriptorIndex := 31, attributes := #[] }] 49 2 #[] #[])
  fields := #[]
  methods := #[k1m0, k1m1, k1m2]
  instanceTypes := #[]
  staticTypes := #[]
  resolved := Array.replicate 39 none
  statics := none }

def pool2 : Array CpInfo := pool [(1, .methodref 2 3), (0, .class_ 4), (0, .nameAndType 5 6), (0, u "java/lang/Object"), (0, u "<init>"), (0, u "()V"), (0, .class_ 8), (0, u "java/lang/Record")] 13

def k2c0 : Code := { maxStack := 1, maxLocals := 1, code := jdk_30_method_1_code, exceptionTable := #[], attributes := #[] }
def k2m0 : Method := { name := "<init>", desc := "()V", sig := { parameters := [], returnType := none }, accessFlags := 4, code := some k2c0 }
/-- java/lang/Record -/
def k2 : Class := { plain "java/lang/Record" (some 0) with
  accessFlags := 1057
  interfaces := #[]
  cf := some (fileOf pool2 7 #[] #[{ accessFlags := 4, nameIndex := 5, descriptorIndex := 6, attributes := #[] }] 1057 2 #[] #[])
  fields := #[]
  methods := #[k2m0]
  instanceTypes := #[]
  staticTypes := #[]
  resolved := Array.replicate 22 none
  statics := none }

def pool3 : Array CpInfo := pool [(1, .methodref 2 3), (0, .class_ 4), (0, .nameAndType 5 6), (0, u "java/lang/Record"), (0, u "<init>"), (0, u "()V"), (0, .fieldref 8 9), (0, .class_ 10), (0, .nameAndType 11 12), (0, u "com/example/tendril/tendril/store/AttributeReferenceReader$Reference"), (0, u "entity"), (0, u "Ljava/lang/String;"), (0, .fieldref 8 14), (0, .nameAndType 15 16), (0, u "line"), (0, u "I"), (0, .fieldref 8 18), (0, .nameAndType 19 16), (0, u "column"), (12, u "(Ljava/lang/String;II)V"), (3, u "endsBy"), (0, u "(II)Z"), (7, .class_ 46), (0, u "com/example/tendril/tendril/store/AttributeReferenceReader")] 21

def k3c0 : Code := { maxStack := 2, maxLocals := 4, code := prog_63_method_1_code, exceptionTable := #[], attributes := #[] }
def k3m0 : Method := { name := "<init>", desc := "(Ljava/lang/String;II)V", sig := { parameters := [(.object "java/lang/String"), .int, .int], returnType := none }, accessFlags := 0, code := some k3c0 }
def k3c1 : Code := { maxStack := 2, maxLocals := 3, code := prog_63_method_2_code, exceptionTable := #[], attributes := #[] }
def k3m1 : Method := { name := "endsBy", desc := "(II)Z", sig := { parameters := [.int, .int], returnType := some .boolean }, accessFlags := 0, code := some k3c1 }
/-- com/example/tendril/tendril/store/AttributeReferenceReader$Reference -/
def k3 : Class := { plain "com/example/tendril/tendril/store/AttributeReferenceReader$Reference" (some 2) with
  accessFlags := 48
  interfaces := #[]
  cf := some (fileOf pool3 8 #[.nestHost 45] #[{ accessFlags := 0, nameIndex := 5, descriptorIndex := 32, attributes := #[] }, { accessFlags := 0, nameIndex := 36, descriptorIndex := 37, attributes := #[] }] 48 2 #[] #[{ accessFlags := 18, nameIndex := 11, descriptorIndex := 12, attributes := #[] }, { accessFlags := 18, nameIndex := 15, descriptorIndex := 16, attributes := #[] }, { accessFlags := 18, nameIndex := 19, descriptorIndex := 16, attributes := #[] }])
  fields := #[{ name := "entity", type := (.object "java/lang/String"), accessFlags := 18, slot := 0, constantValue := 0 }, { name := "line", type := .int, accessFlags := 18, slot := 1, constantValue := 0 }, { name := "column", type := .int, accessFlags := 18, slot := 2, constantValue := 0 }]
  methods := #[k3m0, k3m1]
  instanceTypes := #[(.object "java/lang/String"), .int, .int]
  staticTypes := #[]
  resolved := Array.replicate 68 none
  statics := none }

def pool4 : Array CpInfo := pool [(1, .class_ 2), (0, u "java/io/Serializable"), (0, .class_ 4), (0, u "java/lang/Object")] 2

/-- java/io/Serializable -/
def k4 : Class := { plain "java/io/Serializable" (some 0) with
  accessFlags := 1537
  interfaces := #[]
  cf := some (fileOf pool4 1 #[] #[] 1537 3 #[] #[])
  fields := #[]
  methods := #[]
  instanceTypes := #[]
  staticTypes := #[]
  resolved := Array.replicate 7 none
  statics := none }

def pool5 : Array CpInfo := pool [(1, .class_ 2), (0, u "java/lang/Comparable"), (0, .class_ 4), (0, u "java/lang/Object")] 7

/-- java/lang/Comparable -/
def k5 : Class := { plain "java/lang/Comparable" (some 0) with
  accessFlags := 1537
  interfaces := #[]
  cf := some (fileOf pool5 1 #[] #[] 1537 3 #[] #[])
  fields := #[]
  methods := #[]
  instanceTypes := #[]
  staticTypes := #[]
  resolved := Array.replicate 12 none
  statics := none }

def pool6 : Array CpInfo := pool [(2, .class_ 4), (1, u "java/lang/CharSequence"), (42, .class_ 48), (0, u "java/lang/CharSequence$1CodePointIterator"), (10, .class_ 60), (0, u "java/lang/CharSequence$1CharIterator"), (5, .class_ 67), (0, u "java/lang/Object")] 63

/-- java/lang/CharSequence -/
def k6 : Class := { plain "java/lang/CharSequence" (some 0) with
  accessFlags := 1537
  interfaces := #[]
  cf := some (fileOf pool6 2 #[.nestMembers #[47, 59]] #[] 1537 66 #[] #[])
  fields := #[]
  methods := #[]
  instanceTypes := #[]
  staticTypes := #[]
  resolved := Array.replicate 131 none
  statics := none }

def pool7 : Array CpInfo := pool [(1, .class_ 2), (0, u "java/lang/constant/Constable"), (0, .class_ 4), (0, u "java/lang/Object")] 6

/-- java/lang/constant/Constable -/
def k7 : Class := { plain "java/lang/constant/Constable" (some 0) with
  accessFlags := 1537
  interfaces := #[]
  cf := some (fileOf pool7 1 #[] #[] 1537 3 #[] #[])
  fields := #[]
  methods := #[]
  instanceTypes := #[]
  staticTypes := #[]
  resolved := Array.replicate 11 none
  statics := none }

def pool8 : Array CpInfo := pool [(1, .class_ 2), (0, u "java/lang/constant/ConstantDesc"), (0, .class_ 4), (0, u "java/lang/Object")] 32

/-- java/lang/constant/ConstantDesc -/
def k8 : Class := { plain "java/lang/constant/ConstantDesc" (some 0) with
  accessFlags := 1537
  interfaces := #[]
  cf := some (fileOf pool8 1 #[] #[] 1537 3 #[] #[])
  fields := #[]
  methods := #[]
  instanceTypes := #[]
  staticTypes := #[]
  resolved := Array.replicate 37 none
  statics := none }

def pool9 : Array CpInfo := pool [(2, .class_ 4), (1, u "java/lang/Object"), (0, u "<init>"), (0, u "()V"), (3, .class_ 12), (1, u "java/lang/String"), (0, u "value"), (0, u "[B"), (2, u "coder"), (0, u "B"), (2, u "hash"), (0, u "I"), (2, u "hashIsZero"), (0, u "Z"), (13, u "COMPACT_STRINGS"), (534, .class_ 576), (0, u "java/lang/CharSequence"), (22, u "CASE_INSENSITIVE_ORDER"), (0, u "Ljava/util/Comparator;"), (500, u "serialPersistentFields"), (0, u "[Ljava/io/ObjectStreamField;"), (0, .class_ 1104), (0, u "java/lang/String$CaseInsensitiveComparator"), (1, .class_ 1107), (0, u "java/io/Serializable"), (0, .class_ 1109), (0, u "java/lang/Comparable"), (0, .class_ 1111), (0, u "java/lang/constant/Constable"), (0, .class_ 1113), (0, u "java/lang/constant/ConstantDesc"), (2, u "serialVersionUID"), (0, u "J"), (3, u "REPL"), (0, u "C"), (2, u "LATIN1"), (1, u "UTF16")] 323

def k9m0 : Method := { name := "<init>", desc := "()V", sig := { parameters := [], returnType := none }, accessFlags := 1, code := none }
/-- java/lang/String -/
def k9 : Class := { plain "java/lang/String" (some 0) with
  accessFlags := 49
  interfaces := #[4, 5, 6, 7, 8]
  cf := some (fileOf pool9 10 #[.nestMembers #[1103]] #[{ accessFlags := 1, nameIndex := 5, descriptorIndex := 6, attributes := #[] }] 49 2 #[1106, 1108, 575, 1110, 1112] #[{ accessFlags := 18, nameIndex := 13, descriptorIndex := 14, attributes := #[] }, { accessFlags := 18, nameIndex := 17, descriptorIndex := 18, attributes := #[] }, { accessFlags := 2, nameIndex := 21, descriptorIndex := 22, attributes := #[] }, { accessFlags := 2, nameIndex := 25, descriptorIndex := 26, attributes := #[] }, { accessFlags := 26, nameIndex := 1116, descriptorIndex := 1117, attributes := #[] }, { accessFlags := 24, nameIndex := 40, descriptorIndex := 26, attributes := #[] }, { accessFlags := 26, nameIndex := 1101, descriptorIndex := 1102, attributes := #[] }, { accessFlags := 26, nameIndex := 1121, descriptorIndex := 1122, attributes := #[] }, { accessFlags := 25, nameIndex := 599, descriptorIndex := 600, attributes := #[] }, { accessFlags := 24, nameIndex := 1125, descriptorIndex := 18, attributes := #[] }, { accessFlags := 24, nameIndex := 1127, descriptorIndex := 18, attributes := #[] }])
  fields := #[{ name := "value", type := (.array .byte), accessFlags := 18, slot := 0, constantValue := 0 }, { name := "coder", type := .byte, accessFlags := 18, slot := 1, constantValue := 0 }, { name := "hash", type := .int, accessFlags := 2, slot := 2, constantValue := 0 }, { name := "hashIsZero", type := .boolean, accessFlags := 2, slot := 3, constantValue := 0 }, { name := "serialVersionUID", type := .long, accessFlags := 26, slot := 0, constantValue := 0 }, { name := "COMPACT_STRINGS", type := .boolean, accessFlags := 24, slot := 1, constantValue := 0 }, { name := "serialPersistentFields", type := (.array (.object "java/io/ObjectStreamField")), accessFlags := 26, slot := 2, constantValue := 0 }, { name := "REPL", type := .char, accessFlags := 26, slot := 3, constantValue := 0 }, { name := "CASE_INSENSITIVE_ORDER", type := (.object "java/util/Comparator"), accessFlags := 25, slot := 4, constantValue := 0 }, { name := "LATIN1", type := .byte, accessFlags := 24, slot := 5, constantValue := 0 }, { name := "UTF16", type := .byte, accessFlags := 24, slot := 6, constantValue := 0 }]
  methods := #[k9m0]
  instanceTypes := #[(.array .byte), .byte, .int, .boolean]
  staticTypes := #[.long, .boolean, (.array (.object "java/io/ObjectStreamField")), .char, (.object "java/util/Comparator"), .byte, .byte]
  resolved := Array.replicate 1451 none
  statics := none }

def pool10 : Array CpInfo := pool [(1, u "java/lang/Cloneable"), (0, .class_ 1), (0, u "java/lang/Object"), (0, .class_ 3)] 3

/-- java/lang/Cloneable -/
def k10 : Class := { plain "java/lang/Cloneable" (some 0) with
  accessFlags := 1537
  interfaces := #[]
  cf := some (fileOf pool10 2 #[] #[] 1537 4 #[] #[])
  fields := #[]
  methods := #[]
  instanceTypes := #[]
  staticTypes := #[]
  resolved := Array.replicate 8 none
  statics := none }

/-- the primitive byte -/
def k11 : Class := { plain "byte" none with kind := .primitive 'B', accessFlags := 0x411 }
/-- [B -/
def k12 : Class := { plain "[B" (some 0) with kind := .array 11 .byte, interfaces := #[10, 4], accessFlags := 1041 }

/-- the primitive int -/
def k13 : Class := { plain "int" none with kind := .primitive 'I', accessFlags := 0x411 }
/-- [I -/
def k14 : Class := { plain "[I" (some 0) with kind := .array 13 .int, interfaces := #[10, 4], accessFlags := 1041 }

def heap : Heap := #[]
def classes : Array Class := #[k0, k1, k2, k3, k4, k5, k6, k7, k8, k9, k10, k11, k12, k13, k14]
def interned : List (Array UInt16 × Addr) := []
def slotsUsed : Nat := 0
def theMethod : MethodId := ⟨1, 2⟩
def args0 : Array Value := #[.int 1, .int 2, .int 3, .int 4, .int 5]
def aboutOver (below : List Frame) : State where
  vm := { classes := classes, interned := interned.toArray }
  heap := heap
  slotsUsed := slotsUsed
  threads := #[{ frames := .invoking theMethod args0 :: below }]
def below0 : List Frame := [.native { method := ⟨0, 0⟩, args := #[] }]
def about1 : State := aboutOver below0
def p0 : Program := .bare "" "" ""
def e0 : Env := launch0.env 0 0 0
theorem w_frames : about1.frames = Frame.invoking theMethod args0 :: below0 := rfl
set_option maxRecDepth 65536 in
theorem w_args : argsFit about1.vm theMethod args0 = true := by decide +kernel
set_option maxRecDepth 65536 in
theorem w_heap : heapFits about1 = true := by decide +kernel
set_option maxRecDepth 65536 in
theorem w_runnable : about1.curStatus? = some .runnable := by decide +kernel
set_option maxRecDepth 65536 in
theorem w_alone : about1.alone = true := by decide +kernel
set_option maxRecDepth 65536 in
theorem w_named : about1.methodNamed? x = some theMethod := by decide +kernel
set_option maxRecDepth 65536 in
theorem w_hears : about1.hears theMethod below0 = true := by decide +kernel
set_option maxRecDepth 65536 in
theorem w_ripe : about1.ripe theMethod args0 below0 = true := by decide +kernel
theorem w_running : about1.status = .running := rfl
set_option maxRecDepth 65536 in
theorem w_room : about1.hasRoom e0.platform room_1 = true :=
  launch0.hasRoom_least _ room_1 (by decide +kernel) (by decide +kernel) (by decide +kernel) (by decide +kernel) (by decide +kernel) (by decide +kernel)
theorem allAtoms_all (ts : List Jvm.Cond) (a : Array Jvm.Value) (st : Jvm.State) : (allAtoms ts).before a st = ts.all (fun c => c.before a st) := by
  induction ts with
  | nil => rfl
  | cons c t ih =>
    show (Jvm.Cond.and c (allAtoms t)).before a st = _
    rw [Jvm.Cond.before_and, ih, List.all_cons]
def words1 : List Jvm.Cond := Jvm.Cond.code x code maxLocals ret :: tables_1
/-- a 'code' word, met by the world's own term for the bytes: nothing is compared byte by byte -/
theorem code_word {y : MethodName} {bytes : ByteArray} {mx : Nat} {rt : Option FieldType} {a : Array Value} {s : State} {m : MethodId} {meth : Method} {c : Code} (h1 : s.methodNamed? y = some m) (h2 : s.vm.method? m = some meth) (h3 : meth.code = some c) (h4 : c.code = bytes)
    (h5 : (c.maxLocals == mx && c.exceptionTable.isEmpty && decide (c.maxStack ≤ mostOperands) && decide (meth.sig.returnType = rt) && !meth.locks && decide (parseMethodDescriptor y.desc = some meth.sig)) = true) : (Jvm.Cond.code y bytes mx rt).before a s = true := by
  simp only [Bool.and_eq_true, beq_iff_eq, Bool.not_eq_true', decide_eq_true_eq] at h5
  obtain ⟨⟨⟨⟨⟨g1, g2⟩, g3⟩, g4⟩, g5⟩, g6⟩ := h5
  simp [Cond.before, Cond.holds, Cond.value, h1, h2, h3, h4, g1, g2, g3, g4, g5, g6]
def isCode : Jvm.Cond → Bool
  | .code _ _ _ _ => true
  | _ => false
theorem all_split {L : List Jvm.Cond} {P : Jvm.Cond → Bool} (h1 : L.all (fun c => isCode c || P c) = true) (h2 : ∀ c ∈ L.filter isCode, P c = true) : L.all P = true := by
  refine List.all_eq_true.mpr fun c hc => ?_
  have h := List.all_eq_true.mp h1 c hc
  rcases Bool.eq_false_or_eq_true (isCode c) with hi | hi
  · exact h2 c (List.mem_filter.mpr ⟨hc, hi⟩)
  · simpa [hi] using h
set_option maxRecDepth 65536 in
theorem w_c0 : (Jvm.Cond.code x code maxLocals ret).before args0 about1 = true := code_word (m := ⟨1, 2⟩) (meth := k1m2) (c := k1c2) (by decide +kernel) rfl rfl rfl (by decide +kernel)
set_option maxRecDepth 65536 in
theorem w_c1 : (Jvm.Cond.code ({ cls := "com/example/tendril/tendril/store/AttributeReferenceReader$Reference", name := "<init>", desc := "(Ljava/lang/String;II)V" } : Jvm.MethodName) prog_63_method_1_code (4 : Nat) (Option.none : Option Jvm.ClassFile.FieldType)).before args0 about1 = true := code_word (m := ⟨3, 0⟩) (meth := k3m0) (c := k3c0) (by decide +kernel) rfl rfl rfl (by decide +kernel)
set_option maxRecDepth 65536 in
theorem w_c2 : (Jvm.Cond.code ({ cls := "java/lang/Record", name := "<init>", desc := "()V" } : Jvm.MethodName) jdk_30_method_1_code (1 : Nat) (Option.none : Option Jvm.ClassFile.FieldType)).before args0 about1 = true := code_word (m := ⟨2, 0⟩) (meth := k2m0) (c := k2c0) (by decide +kernel) rfl rfl rfl (by decide +kernel)
set_option maxRecDepth 65536 in
theorem w_c3 : (Jvm.Cond.code ({ cls := "java/lang/Object", name := "<init>", desc := "()V" } : Jvm.MethodName) object_method_1_code (1 : Nat) (Option.none : Option Jvm.ClassFile.FieldType)).before args0 about1 = true := code_word (m := ⟨0, 0⟩) (meth := k0m0) (c := k0c0) (by decide +kernel) rfl rfl rfl (by decide +kernel)
set_option maxRecDepth 65536 in
theorem w_c4 : (Jvm.Cond.code ({ cls := "com/example/tendril/tendril/store/ReferenceEndsByPinLaw", name := "key", desc := "(II)J" } : Jvm.MethodName) method_2_code (2 : Nat) (Option.some Jvm.ClassFile.FieldType.long)).before args0 about1 = true := code_word (m := ⟨1, 1⟩) (meth := k1m1) (c := k1c1) (by decide +kernel) rfl rfl rfl (by decide +kernel)
set_option maxRecDepth 65536 in
theorem w_c5 : (Jvm.Cond.code ({ cls := "com/example/tendril/tendril/store/AttributeReferenceReader$Reference", name := "endsBy", desc := "(II)Z" } : Jvm.MethodName) prog_63_method_2_code (3 : Nat) (Option.some Jvm.ClassFile.FieldType.boolean)).before args0 about1 = true := code_word (m := ⟨3, 1⟩) (meth := k3m1) (c := k3c1) (by decide +kernel) rfl rfl rfl (by decide +kernel)
def codes1 : List Jvm.Cond := [Jvm.Cond.code x code maxLocals ret, Jvm.Cond.code ({ cls := "com/example/tendril/tendril/store/AttributeReferenceReader$Reference", name := "<init>", desc := "(Ljava/lang/String;II)V" } : Jvm.MethodName) prog_63_method_1_code (4 : Nat) (Option.none : Option Jvm.ClassFile.FieldType), Jvm.Cond.code ({ cls := "java/lang/Record", name := "<init>", desc := "()V" } : Jvm.MethodName) jdk_30_method_1_code (1 : Nat) (Option.none : Option Jvm.ClassFile.FieldType), Jvm.Cond.code ({ cls := "java/lang/Object", name := "<init>", desc := "()V" } : Jvm.MethodName) object_method_1_code (1 : Nat) (Option.none : Option Jvm.ClassFile.FieldType), Jvm.Cond.code ({ cls := "com/example/tendril/tendril/store/ReferenceEndsByPinLaw", name := "key", desc := "(II)J" } : Jvm.MethodName) method_2_code (2 : Nat) (Option.some Jvm.ClassFile.FieldType.long), Jvm.Cond.code ({ cls := "com/example/tendril/tendril/store/AttributeReferenceReader$Reference", name := "endsBy", desc := "(II)Z" } : Jvm.MethodName) prog_63_method_2_code (3 : Nat) (Option.some Jvm.ClassFile.FieldType.boolean)]
set_option maxRecDepth 65536 in
theorem codes_eq : words1.filter isCode = codes1 := rfl
theorem w_codes : ∀ c ∈ words1.filter isCode, c.before args0 about1 = true := by
  rw [codes_eq]
  intro c hc
  simp only [codes1, List.mem_cons, List.not_mem_nil, or_false] at hc
  rcases hc with rfl | rfl | rfl | rfl | rfl | rfl
  · exact w_c0
  · exact w_c1
  · exact w_c2
  · exact w_c3
  · exact w_c4
  · exact w_c5
set_option maxRecDepth 65536 in
theorem w_t1 : (words1.take 24).all (fun c => isCode c || c.before args0 about1) = true := by decide +kernel
set_option maxRecDepth 65536 in
theorem w_t2 : (words1.drop 24).all (fun c => isCode c || c.before args0 about1) = true := by decide +kernel
theorem w_tables : (allAtoms (Jvm.Cond.code x code maxLocals ret :: tables_1)).before args0 about1 = true := by
  rw [allAtoms_all]
  show words1.all (fun c => c.before args0 about1) = true
  refine all_split ?_ w_codes
  rw [← List.take_append_drop 24 words1, List.all_append, w_t1, w_t2]
  rfl
set_option maxRecDepth 65536 in
theorem w_case : (Jvm.Cond.and given_1 narrow_1).before args0 about1 = true := by decide +kernel
theorem w_applies : (headSpec (Jvm.Cond.code x code maxLocals ret :: tables_1) room_1).applies x e0.platform about1 = true :=
  (Spec.applies_iff w_frames).mpr ⟨w_running, w_runnable, w_alone, w_named, w_hears, w_ripe, w_room, w_tables⟩
theorem atStart : AtStart classFile x code maxLocals ret World_1 tables_1 room_1 Calls_1 rest_1 Pre_1 launch0 p0 e0 about1 theMethod args0 below0 :=
  ⟨lists_1, trivial, launch0.admits_env _ _ _, launch0.least_env, fairChoices_fair.cas, fairChoices_fair.clock, w_frames, w_args, w_heap, w_applies, trivial, trivial, w_case⟩
end start1
theorem witness_1 : WitnessClaimed_1 := ⟨start1.p0, start1.e0, start1.about1, start1.theMethod, start1.args0, start1.below0, start1.atStart⟩
end Jvm.Pilot.@@N@@
