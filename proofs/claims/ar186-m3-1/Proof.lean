import JvmDerived
import JvmDerived.Pilot.@@N@@Statement
import JvmDerived.Pilot.@@N@@Code
set_option linter.unusedVariables false
set_option linter.unusedSimpArgs false
namespace Jvm.RoadKit
open Sem ClassFile Op Lib Jvm.Stand Jvm.Free Jvm.LawKit
section New
variable {p : Program} {l : Launch} {e : Env} {R : Room} {s : State} {m : MethodId} {args : Array Value} {below : List Frame} {meth : Method} {c : Code} {T : State} {locs : List Loc} {cells slots : Nat}
theorem retI (X : Stand p l e R s m args below meth c T locs cells slots) (hx : p.tables.exec = Jvm.exec) {pc : Nat} {Ls : Array Slot} {z : Int32} {rest : List Value} (hret : meth.sig.returnType = some .int) (hd : decode c.code pc = .ok (.ireturn, 1)) {fs : List Frame}
    (hl : ∀ (f : JFrame) (acts : List Action), f.method = m → f.locked = none → f.entered = [] → (doReturn e (T.setTop f) acts (some (.int z))).1 = T.setFrames fs) : Steps p.tables e below (T.setTop (mkF m pc Ls (.int z :: rest))) (T.setFrames fs) := by
  have hm' : T.vm.method? m = some meth := X.method'
  have hn : narrow .int (.int z) = .int z := rfl
  show Steps p.tables e below (T.setTop { method := m, pc := pc, locals := Ls, stack := _ :: rest, locked := none }) _
  jvm_step X.here [X.here.top, hx, hd, hm', hret, hn]
  first | (intro acts; rw [hl _ acts rfl rfl rfl]) | rw [hl _ _ rfl rfl rfl]
  exact Steps.refl _
end New
end Jvm.RoadKit
namespace Jvm.Pilot.@@N@@
open Jvm Jvm.ClassFile Sem Op Lib Jvm.Free Jvm.Stand Jvm.LawKit Jvm.RoadKit Bundle Jvm.Pilot.@@N@@.Jvm.D
theorem d1_0 : decode prog_75_method_1_code 0 = .ok (.aload_n 0, 1) := by decide +kernel
theorem d1_1 : decode prog_75_method_1_code 1 = .ok (.invokespecial 1, 3) := by decide +kernel
theorem d1_4 : decode prog_75_method_1_code 4 = .ok (.aload_n 0, 1) := by decide +kernel
theorem d1_5 : decode prog_75_method_1_code 5 = .ok (.iload_n 1, 1) := by decide +kernel
theorem d1_6 : decode prog_75_method_1_code 6 = .ok (.putfield 7, 3) := by decide +kernel
theorem d1_9 : decode prog_75_method_1_code 9 = .ok (.aload_n 0, 1) := by decide +kernel
theorem d1_10 : decode prog_75_method_1_code 10 = .ok (.iload_n 2, 1) := by decide +kernel
theorem d1_11 : decode prog_75_method_1_code 11 = .ok (.putfield 13, 3) := by decide +kernel
theorem d1_14 : decode prog_75_method_1_code 14 = .ok (.return_, 1) := by decide +kernel
theorem pn_0 : plainName "com/example/dotchord/dotchord/typing/Point" = true := by first | (simp [plainName, overriddenIn]; done) | decide +kernel
theorem ef_1 (m : MethodId) (a1 : Addr) (p2 : Int32) (p3 : Int32) : entryFrame m #[(.ref a1), (.int p2), (.int p3)] 3 = mkF m 0 #[.val (.ref a1), .val (.int p2), .val (.int p3)] [] := by first | (simp [entryFrame, mkF, argsToLocals, Value.category]; done) | rfl
def Q1 (Z : State) (a1 : Addr) (p2 : Int32) (p3 : Int32) (h0 : Heap) (n0 : Nat) (v : Option Value) (h : Heap) (L : List Loc) : Prop := v = none ∧ Fr n0 L ∧ Keep h0 h [a1] ∧ Exa Z h a1 "com/example/dotchord/dotchord/typing/Point" ∧ Fld Z h a1 "com/example/dotchord/dotchord/typing/Point" "x" "I" (.int p2) ∧ Fld Z h a1 "com/example/dotchord/dotchord/typing/Point" "y" "I" (.int p3)
set_option maxRecDepth 65536 in
set_option maxHeartbeats 40000000 in
theorem rm1 (l : Launch) (Z : State) (a0 : Array Value) (hw : ∀ d ∈ tables_1, d.before a0 Z = true) (ws : List Jvm.Cond) (a1 : Addr) (p2 : Int32) (p3 : Int32) (h0 : Heap) (n0 : Nat) (Z0 : n0 ≤ h0.size) (F_x_a1 : Fld Z h0 a1 "com/example/dotchord/dotchord/typing/Point" "x" "I" (.int (0 : Int32))) (F_y_a1 : Fld Z h0 a1 "com/example/dotchord/dotchord/typing/Point" "y" "I" (.int (0 : Int32))) (E_a1 : Exa Z h0 a1 "com/example/dotchord/dotchord/typing/Point") (g_a1 : n0 ≤ a1) :
    MetFree l (⟨"com/example/dotchord/dotchord/typing/Point", "<init>", "(II)V"⟩ : MethodName) (head1 (Jvm.Cond.code (⟨"com/example/dotchord/dotchord/typing/Point", "<init>", "(II)V"⟩ : MethodName) prog_75_method_1_code 3 none :: ws) ({ frames := 1, cells := 0, slots := 0, locals := 12 } : Room)) (fun a U => a = #[(.ref a1), (.int p2), (.int p3)] ∧ Z.Warmed39 U.vm ∧ U.heap = h0) (fun _ _ _ _ _ => True) (fun _ U o U' => ∃ v L, o = .returned v ∧ Q1 Z a1 p2 p3 h0 n0 v U'.heap L ∧ FrameEnd U o U' L ({ frames := 1, cells := 0, slots := 0, locals := 12 } : Room).cells ({ frames := 1, cells := 0, slots := 0, locals := 12 } : Room).slots) := by
  refine MetFree.of_bodySF (plainFor_of_name pn_0) hisR ?_
  intro p e s m args below meth c s₁ Bd hml0 hP hK
  obtain ⟨rfl, hZ, hh⟩ := hP
  have hx := Bd.exec
  have hby := Bd.bytes
  have hml : c.maxLocals = 3 := hml0
  have hown : s.vm.findClass "com/example/dotchord/dotchord/typing/Point" = some m.cls := findClass_of_methodNamed Bd.named
  have hnm := (name_of_methodNamed Bd.named Bd.method).1
  have X0 : Stand p l e ({ frames := 1, cells := 0, slots := 0, locals := 12 } : Room) s m #[(.ref a1), (.int p2), (.int p3)] below meth c s₁ [] 0 0 := Stand.of_body Bd
  have e0 : s₁.heap = h0 := by rw [← hh, Bd.state]; rfl
  have N0 := Fr.nil n0
  have pre0 : ∀ t, Steps p.tables e below (s₁.setTop (mkF m 0 #[.val (.ref a1), .val (.int p2), .val (.int p3)] [])) t → Steps p.tables e below (s₁.setTop (entryFrame m #[(.ref a1), (.int p2), (.int p3)] 3)) t := fun t k => castTop (ef_1 m a1 p2 p3) k
  obtain ⟨T1, X1, e1, st1⟩ := initO X0 hx hZ hown (hw _ (List.mem_of_getElem? (i := 6) rfl)) (hw _ (List.mem_of_getElem? (i := 7) rfl)) (hw _ (List.mem_of_getElem? (i := 8) rfl)) e0 (g := (mkF m 1 #[.val (.ref a1), .val (.int p2), .val (.int p3)] [(.ref a1)])) rfl (by rw [hml]; rfl) rfl (hb hby d1_1) (by decide) (W := 0) (by show 2 * 0 + _ ≤ _; exact Nat.le_of_eq rfl) (by decide)
  obtain ⟨T2, h2, X2, e2, W2, st2⟩ := putF X1 hx hZ hown (host := "") (Or.inl (hw _ (List.mem_of_getElem? (i := 9) rfl))) Via.refl e1 F_x_a1 E_a1 (Or.inr ⟨(hw _ (List.mem_of_getElem? (i := 10) rfl)), rfl, hnm⟩) (hw _ (List.mem_of_getElem? (i := 1) rfl)) (ty := .int) (by decide) rfl rfl (g := (mkF m 6 #[.val (.ref a1), .val (.int p2), .val (.int p3)] [(.int p2), (.ref a1)])) rfl rfl (hb hby d1_6)
  have F_x_a1_2 := F_x_a1.same W2
  have F_y_a1_2 := F_y_a1.other W2 (Or.inr (slot_ne (Or.inr (hw _ (List.mem_of_getElem? (i := 12) rfl))) (Or.inr (hw _ (List.mem_of_getElem? (i := 10) rfl))) (by decide) (t := .int) (t' := .int) (by decide) (by decide)))
  have E_a1_2 := E_a1.wr W2
  have N2 := Fr.snoc X2 N0 g_a1
  have Z2 : n0 ≤ h2.size := Nat.le_trans Z0 (Keep.of_wr W2).1
  have K2 := (Keep.refl h0 [a1]).wr W2 (Or.inl (List.mem_of_getElem? (i := 0) rfl))
  obtain ⟨T3, h3, X3, e3, W3, st3⟩ := putF X2 hx hZ hown (host := "") (Or.inl (hw _ (List.mem_of_getElem? (i := 11) rfl))) Via.refl e2 F_y_a1_2 E_a1_2 (Or.inr ⟨(hw _ (List.mem_of_getElem? (i := 12) rfl)), rfl, hnm⟩) (hw _ (List.mem_of_getElem? (i := 1) rfl)) (ty := .int) (by decide) rfl rfl (g := (mkF m 11 #[.val (.ref a1), .val (.int p2), .val (.int p3)] [(.int p3), (.ref a1)])) rfl rfl (hb hby d1_11)
  have F_x_a1_3 := F_x_a1_2.other W3 (Or.inr (slot_ne (Or.inr (hw _ (List.mem_of_getElem? (i := 10) rfl))) (Or.inr (hw _ (List.mem_of_getElem? (i := 12) rfl))) (by decide) (t := .int) (t' := .int) (by decide) (by decide)))
  have F_y_a1_3 := F_y_a1_2.same W3
  have E_a1_3 := E_a1_2.wr W3
  have N3 := Fr.snoc X3 N2 g_a1
  have Z3 : n0 ≤ h3.size := Nat.le_trans Z2 (Keep.of_wr W3).1
  have K3 := K2.wr W3 (Or.inl (List.mem_of_getElem? (i := 0) rfl))
  obtain ⟨fs, hr, hrun, hended, hW, hsame⟩ := X3.leave (v := none) (fun _ => rfl)
  refine ⟨_, _, pre0 _ ?_, hrun, hended, _, _, rfl, ?_, ⟨_, rfl⟩, hW, hsame.mono (by decide) (by decide)⟩
  · show Steps p.tables e below (s₁.setTop (mkF m 0 #[.val (.ref a1), .val (.int p2), .val (.int p3)] [])) _
    refine XS.aloadN X0.here hx rfl (hb hby d1_0) rfl rfl ?_
    show Steps p.tables e below (s₁.setTop (mkF m 1 #[.val (.ref a1), .val (.int p2), .val (.int p3)] [(.ref a1)])) _
    refine st1 _ ?_
    show Steps p.tables e below (T1.setTop (mkF m 4 #[.val (.ref a1), .val (.int p2), .val (.int p3)] [])) _
    refine XS.aloadN X1.here hx rfl (hb hby d1_4) rfl rfl ?_
    show Steps p.tables e below (T1.setTop (mkF m 5 #[.val (.ref a1), .val (.int p2), .val (.int p3)] [(.ref a1)])) _
    refine XS.iloadN X1.here hx rfl (hb hby d1_5) rfl ?_
    show Steps p.tables e below (T1.setTop (mkF m 6 #[.val (.ref a1), .val (.int p2), .val (.int p3)] [(.int p2), (.ref a1)])) _
    refine st2 _ ?_
    show Steps p.tables e below (T2.setTop (mkF m 9 #[.val (.ref a1), .val (.int p2), .val (.int p3)] [])) _
    refine XS.aloadN X2.here hx rfl (hb hby d1_9) rfl rfl ?_
    show Steps p.tables e below (T2.setTop (mkF m 10 #[.val (.ref a1), .val (.int p2), .val (.int p3)] [(.ref a1)])) _
    refine XS.iloadN X2.here hx rfl (hb hby d1_10) rfl ?_
    show Steps p.tables e below (T2.setTop (mkF m 11 #[.val (.ref a1), .val (.int p2), .val (.int p3)] [(.int p3), (.ref a1)])) _
    refine st3 _ ?_
    show Steps p.tables e below (T3.setTop (mkF m 14 #[.val (.ref a1), .val (.int p2), .val (.int p3)] [])) _
    exact X3.returnOut hx Bd.returns (hb hby d1_14) hr
  · show Q1 Z a1 p2 p3 h0 n0 _ T3.heap _
    rw [e3]
    exact ⟨rfl, N3, K3, E_a1_3, F_x_a1_3, F_y_a1_3⟩
theorem d3_0 : decode prog_75_method_2_code 0 = .ok (.aload_n 1, 1) := by decide +kernel
theorem d3_1 : decode prog_75_method_2_code 1 = .ok (.getfield 7, 3) := by decide +kernel
theorem d3_4 : decode prog_75_method_2_code 4 = .ok (.i2l, 1) := by decide +kernel
theorem d3_5 : decode prog_75_method_2_code 5 = .ok (.aload_n 0, 1) := by decide +kernel
theorem d3_6 : decode prog_75_method_2_code 6 = .ok (.getfield 7, 3) := by decide +kernel
theorem d3_9 : decode prog_75_method_2_code 9 = .ok (.i2l, 1) := by decide +kernel
theorem d3_10 : decode prog_75_method_2_code 10 = .ok (.lsub, 1) := by decide +kernel
theorem d3_11 : decode prog_75_method_2_code 11 = .ok (.lstore_n 2, 1) := by decide +kernel
theorem d3_12 : decode prog_75_method_2_code 12 = .ok (.aload_n 1, 1) := by decide +kernel
theorem d3_13 : decode prog_75_method_2_code 13 = .ok (.getfield 13, 3) := by decide +kernel
theorem d3_16 : decode prog_75_method_2_code 16 = .ok (.i2l, 1) := by decide +kernel
theorem d3_17 : decode prog_75_method_2_code 17 = .ok (.aload_n 0, 1) := by decide +kernel
theorem d3_18 : decode prog_75_method_2_code 18 = .ok (.getfield 13, 3) := by decide +kernel
theorem d3_21 : decode prog_75_method_2_code 21 = .ok (.i2l, 1) := by decide +kernel
theorem d3_22 : decode prog_75_method_2_code 22 = .ok (.lsub, 1) := by decide +kernel
theorem d3_23 : decode prog_75_method_2_code 23 = .ok (.lstore 4, 2) := by decide +kernel
theorem d3_25 : decode prog_75_method_2_code 25 = .ok (.lload_n 2, 1) := by decide +kernel
theorem d3_26 : decode prog_75_method_2_code 26 = .ok (.lload_n 2, 1) := by decide +kernel
theorem d3_27 : decode prog_75_method_2_code 27 = .ok (.lmul, 1) := by decide +kernel
theorem d3_28 : decode prog_75_method_2_code 28 = .ok (.lload 4, 2) := by decide +kernel
theorem d3_30 : decode prog_75_method_2_code 30 = .ok (.lload 4, 2) := by decide +kernel
theorem d3_32 : decode prog_75_method_2_code 32 = .ok (.lmul, 1) := by decide +kernel
theorem d3_33 : decode prog_75_method_2_code 33 = .ok (.ladd, 1) := by decide +kernel
theorem d3_34 : decode prog_75_method_2_code 34 = .ok (.lreturn, 1) := by decide +kernel
theorem ef_3 (m : MethodId) (a1 : Addr) (a2 : Addr) : entryFrame m #[(.ref a1), (.ref a2)] 6 = mkF m 0 #[.val (.ref a1), .val (.ref a2), .unset, .unset, .unset, .unset] [] := by first | (simp [entryFrame, mkF, argsToLocals, Value.category]; done) | rfl
def v3 (wx1 : Int32) (wy1 : Int32) (wx2 : Int32) (wy2 : Int32) : Int64 := ((((wx2.toInt64) - (wx1.toInt64)) * ((wx2.toInt64) - (wx1.toInt64))) + (((wy2.toInt64) - (wy1.toInt64)) * ((wy2.toInt64) - (wy1.toInt64))))
def Q3 (Z : State) (a1 : Addr) (a2 : Addr) (wx1 : Int32) (wy1 : Int32) (wx2 : Int32) (wy2 : Int32) (h0 : Heap) (n0 : Nat) (v : Option Value) (h : Heap) (L : List Loc) : Prop := v = some (.long (v3 wx1 wy1 wx2 wy2)) ∧ Fr n0 L ∧ h = h0
set_option maxRecDepth 65536 in
set_option maxHeartbeats 40000000 in
theorem rm3 (l : Launch) (Z : State) (a0 : Array Value) (hw : ∀ d ∈ tables_1, d.before a0 Z = true) (ws : List Jvm.Cond) (a1 : Addr) (a2 : Addr) (wx1 : Int32) (wy1 : Int32) (wx2 : Int32) (wy2 : Int32) (h0 : Heap) (n0 : Nat) (Z0 : n0 ≤ h0.size) (F_x_a1 : Fld Z h0 a1 "com/example/dotchord/dotchord/typing/Point" "x" "I" (.int wx1)) (F_y_a1 : Fld Z h0 a1 "com/example/dotchord/dotchord/typing/Point" "y" "I" (.int wy1)) (F_x_a2 : Fld Z h0 a2 "com/example/dotchord/dotchord/typing/Point" "x" "I" (.int wx2)) (F_y_a2 : Fld Z h0 a2 "com/example/dotchord/dotchord/typing/Point" "y" "I" (.int wy2)) :
    MetFree l (⟨"com/example/dotchord/dotchord/typing/Point", "distanceSquaredTo", "(Lcom/example/dotchord/dotchord/typing/Point;)J"⟩ : MethodName) (head1 (Jvm.Cond.code (⟨"com/example/dotchord/dotchord/typing/Point", "distanceSquaredTo", "(Lcom/example/dotchord/dotchord/typing/Point;)J"⟩ : MethodName) prog_75_method_2_code 6 (some .long) :: ws) ({ frames := 0, cells := 0, slots := 0, locals := 0 } : Room)) (fun a U => a = #[(.ref a1), (.ref a2)] ∧ Z.Warmed39 U.vm ∧ U.heap = h0) (fun _ _ _ _ _ => True) (fun _ U o U' => ∃ v L, o = .returned v ∧ Q3 Z a1 a2 wx1 wy1 wx2 wy2 h0 n0 v U'.heap L ∧ FrameEnd U o U' L ({ frames := 0, cells := 0, slots := 0, locals := 0 } : Room).cells ({ frames := 0, cells := 0, slots := 0, locals := 0 } : Room).slots) := by
  refine MetFree.of_bodySF (plainFor_of_name pn_0) hisR ?_
  intro p e s m args below meth c s₁ Bd hml0 hP hK
  obtain ⟨rfl, hZ, hh⟩ := hP
  have hx := Bd.exec
  have hby := Bd.bytes
  have hml : c.maxLocals = 6 := hml0
  have hown : s.vm.findClass "com/example/dotchord/dotchord/typing/Point" = some m.cls := findClass_of_methodNamed Bd.named
  have hnm := (name_of_methodNamed Bd.named Bd.method).1
  have X0 : Stand p l e ({ frames := 0, cells := 0, slots := 0, locals := 0 } : Room) s m #[(.ref a1), (.ref a2)] below meth c s₁ [] 0 0 := Stand.of_body Bd
  have e0 : s₁.heap = h0 := by rw [← hh, Bd.state]; rfl
  have N0 := Fr.nil n0
  have pre0 : ∀ t, Steps p.tables e below (s₁.setTop (mkF m 0 #[.val (.ref a1), .val (.ref a2), .unset, .unset, .unset, .unset] [])) t → Steps p.tables e below (s₁.setTop (entryFrame m #[(.ref a1), (.ref a2)] 6)) t := fun t k => castTop (ef_3 m a1 a2) k
  obtain ⟨T1, X1, e1, st1⟩ := getF X0 hx hZ hown (host := "") (Or.inl (hw _ (List.mem_of_getElem? (i := 9) rfl))) Via.refl e0 F_x_a2 (g := (mkF m 1 #[.val (.ref a1), .val (.ref a2), .unset, .unset, .unset, .unset] [(.ref a2)])) rfl rfl (hb hby d3_1)
  obtain ⟨T2, X2, e2, st2⟩ := getF X1 hx hZ hown (host := "") (Or.inl (hw _ (List.mem_of_getElem? (i := 9) rfl))) Via.refl e1 F_x_a1 (g := (mkF m 6 #[.val (.ref a1), .val (.ref a2), .unset, .unset, .unset, .unset] [(.ref a1), (.long (wx2.toInt64))])) rfl rfl (hb hby d3_6)
  obtain ⟨T3, X3, e3, st3⟩ := getF X2 hx hZ hown (host := "") (Or.inl (hw _ (List.mem_of_getElem? (i := 11) rfl))) Via.refl e2 F_y_a2 (g := (mkF m 13 #[.val (.ref a1), .val (.ref a2), .val (.long ((wx2.toInt64) - (wx1.toInt64))), .second, .unset, .unset] [(.ref a2)])) rfl rfl (hb hby d3_13)
  obtain ⟨T4, X4, e4, st4⟩ := getF X3 hx hZ hown (host := "") (Or.inl (hw _ (List.mem_of_getElem? (i := 11) rfl))) Via.refl e3 F_y_a1 (g := (mkF m 18 #[.val (.ref a1), .val (.ref a2), .val (.long ((wx2.toInt64) - (wx1.toInt64))), .second, .unset, .unset] [(.ref a1), (.long (wy2.toInt64))])) rfl rfl (hb hby d3_18)
  obtain ⟨fs, hr, hrun, hended, hW, hsame⟩ := X4.leave (v := some (.long ((((wx2.toInt64) - (wx1.toInt64)) * ((wx2.toInt64) - (wx1.toInt64))) + (((wy2.toInt64) - (wy1.toInt64)) * ((wy2.toInt64) - (wy1.toInt64)))))) (fun h => by rw [Bd.returns] at h; cases h)
  refine ⟨_, _, pre0 _ ?_, hrun, hended, _, _, rfl, ?_, ⟨_, rfl⟩, hW, hsame.mono (by decide) (by decide)⟩
  · show Steps p.tables e below (s₁.setTop (mkF m 0 #[.val (.ref a1), .val (.ref a2), .unset, .unset, .unset, .unset] [])) _
    refine XS.aloadN X0.here hx rfl (hb hby d3_0) rfl rfl ?_
    show Steps p.tables e below (s₁.setTop (mkF m 1 #[.val (.ref a1), .val (.ref a2), .unset, .unset, .unset, .unset] [(.ref a2)])) _
    refine st1 _ ?_
    show Steps p.tables e below (T1.setTop (mkF m 4 #[.val (.ref a1), .val (.ref a2), .unset, .unset, .unset, .unset] [(.int wx2)])) _
    refine XS.i2l X1.here hx rfl (hb hby d3_4) rfl ?_
    show Steps p.tables e below (T1.setTop (mkF m 5 #[.val (.ref a1), .val (.ref a2), .unset, .unset, .unset, .unset] [(.long (wx2.toInt64))])) _
    refine XS.aloadN X1.here hx rfl (hb hby d3_5) rfl rfl ?_
    show Steps p.tables e below (T1.setTop (mkF m 6 #[.val (.ref a1), .val (.ref a2), .unset, .unset, .unset, .unset] [(.ref a1), (.long (wx2.toInt64))])) _
    refine st2 _ ?_
    show Steps p.tables e below (T2.setTop (mkF m 9 #[.val (.ref a1), .val (.ref a2), .unset, .unset, .unset, .unset] [(.int wx1), (.long (wx2.toInt64))])) _
    refine XS.i2l X2.here hx rfl (hb hby d3_9) rfl ?_
    show Steps p.tables e below (T2.setTop (mkF m 10 #[.val (.ref a1), .val (.ref a2), .unset, .unset, .unset, .unset] [(.long (wx1.toInt64)), (.long (wx2.toInt64))])) _
    refine XS.lsub X2.here hx rfl (hb hby d3_10) rfl ?_
    show Steps p.tables e below (T2.setTop (mkF m 11 #[.val (.ref a1), .val (.ref a2), .unset, .unset, .unset, .unset] [(.long ((wx2.toInt64) - (wx1.toInt64)))])) _
    refine XS.lstoreN X2.here hx rfl (hb hby d3_11) rfl (l' := #[.val (.ref a1), .val (.ref a2), .val (.long ((wx2.toInt64) - (wx1.toInt64))), .second, .unset, .unset]) rfl ?_
    show Steps p.tables e below (T2.setTop (mkF m 12 #[.val (.ref a1), .val (.ref a2), .val (.long ((wx2.toInt64) - (wx1.toInt64))), .second, .unset, .unset] [])) _
    refine XS.aloadN X2.here hx rfl (hb hby d3_12) rfl rfl ?_
    show Steps p.tables e below (T2.setTop (mkF m 13 #[.val (.ref a1), .val (.ref a2), .val (.long ((wx2.toInt64) - (wx1.toInt64))), .second, .unset, .unset] [(.ref a2)])) _
    refine st3 _ ?_
    show Steps p.tables e below (T3.setTop (mkF m 16 #[.val (.ref a1), .val (.ref a2), .val (.long ((wx2.toInt64) - (wx1.toInt64))), .second, .unset, .unset] [(.int wy2)])) _
    refine XS.i2l X3.here hx rfl (hb hby d3_16) rfl ?_
    show Steps p.tables e below (T3.setTop (mkF m 17 #[.val (.ref a1), .val (.ref a2), .val (.long ((wx2.toInt64) - (wx1.toInt64))), .second, .unset, .unset] [(.long (wy2.toInt64))])) _
    refine XS.aloadN X3.here hx rfl (hb hby d3_17) rfl rfl ?_
    show Steps p.tables e below (T3.setTop (mkF m 18 #[.val (.ref a1), .val (.ref a2), .val (.long ((wx2.toInt64) - (wx1.toInt64))), .second, .unset, .unset] [(.ref a1), (.long (wy2.toInt64))])) _
    refine st4 _ ?_
    show Steps p.tables e below (T4.setTop (mkF m 21 #[.val (.ref a1), .val (.ref a2), .val (.long ((wx2.toInt64) - (wx1.toInt64))), .second, .unset, .unset] [(.int wy1), (.long (wy2.toInt64))])) _
    refine XS.i2l X4.here hx rfl (hb hby d3_21) rfl ?_
    show Steps p.tables e below (T4.setTop (mkF m 22 #[.val (.ref a1), .val (.ref a2), .val (.long ((wx2.toInt64) - (wx1.toInt64))), .second, .unset, .unset] [(.long (wy1.toInt64)), (.long (wy2.toInt64))])) _
    refine XS.lsub X4.here hx rfl (hb hby d3_22) rfl ?_
    show Steps p.tables e below (T4.setTop (mkF m 23 #[.val (.ref a1), .val (.ref a2), .val (.long ((wx2.toInt64) - (wx1.toInt64))), .second, .unset, .unset] [(.long ((wy2.toInt64) - (wy1.toInt64)))])) _
    refine XS.lstore X4.here hx rfl (hb hby d3_23) rfl (l' := #[.val (.ref a1), .val (.ref a2), .val (.long ((wx2.toInt64) - (wx1.toInt64))), .second, .val (.long ((wy2.toInt64) - (wy1.toInt64))), .second]) rfl ?_
    show Steps p.tables e below (T4.setTop (mkF m 25 #[.val (.ref a1), .val (.ref a2), .val (.long ((wx2.toInt64) - (wx1.toInt64))), .second, .val (.long ((wy2.toInt64) - (wy1.toInt64))), .second] [])) _
    refine XS.lloadN X4.here hx rfl (hb hby d3_25) rfl ?_
    show Steps p.tables e below (T4.setTop (mkF m 26 #[.val (.ref a1), .val (.ref a2), .val (.long ((wx2.toInt64) - (wx1.toInt64))), .second, .val (.long ((wy2.toInt64) - (wy1.toInt64))), .second] [(.long ((wx2.toInt64) - (wx1.toInt64)))])) _
    refine XS.lloadN X4.here hx rfl (hb hby d3_26) rfl ?_
    show Steps p.tables e below (T4.setTop (mkF m 27 #[.val (.ref a1), .val (.ref a2), .val (.long ((wx2.toInt64) - (wx1.toInt64))), .second, .val (.long ((wy2.toInt64) - (wy1.toInt64))), .second] [(.long ((wx2.toInt64) - (wx1.toInt64))), (.long ((wx2.toInt64) - (wx1.toInt64)))])) _
    refine XS.lmul X4.here hx rfl (hb hby d3_27) rfl ?_
    show Steps p.tables e below (T4.setTop (mkF m 28 #[.val (.ref a1), .val (.ref a2), .val (.long ((wx2.toInt64) - (wx1.toInt64))), .second, .val (.long ((wy2.toInt64) - (wy1.toInt64))), .second] [(.long (((wx2.toInt64) - (wx1.toInt64)) * ((wx2.toInt64) - (wx1.toInt64))))])) _
    refine XS.lload X4.here hx rfl (hb hby d3_28) rfl ?_
    show Steps p.tables e below (T4.setTop (mkF m 30 #[.val (.ref a1), .val (.ref a2), .val (.long ((wx2.toInt64) - (wx1.toInt64))), .second, .val (.long ((wy2.toInt64) - (wy1.toInt64))), .second] [(.long ((wy2.toInt64) - (wy1.toInt64))), (.long (((wx2.toInt64) - (wx1.toInt64)) * ((wx2.toInt64) - (wx1.toInt64))))])) _
    refine XS.lload X4.here hx rfl (hb hby d3_30) rfl ?_
    show Steps p.tables e below (T4.setTop (mkF m 32 #[.val (.ref a1), .val (.ref a2), .val (.long ((wx2.toInt64) - (wx1.toInt64))), .second, .val (.long ((wy2.toInt64) - (wy1.toInt64))), .second] [(.long ((wy2.toInt64) - (wy1.toInt64))), (.long ((wy2.toInt64) - (wy1.toInt64))), (.long (((wx2.toInt64) - (wx1.toInt64)) * ((wx2.toInt64) - (wx1.toInt64))))])) _
    refine XS.lmul X4.here hx rfl (hb hby d3_32) rfl ?_
    show Steps p.tables e below (T4.setTop (mkF m 33 #[.val (.ref a1), .val (.ref a2), .val (.long ((wx2.toInt64) - (wx1.toInt64))), .second, .val (.long ((wy2.toInt64) - (wy1.toInt64))), .second] [(.long (((wy2.toInt64) - (wy1.toInt64)) * ((wy2.toInt64) - (wy1.toInt64)))), (.long (((wx2.toInt64) - (wx1.toInt64)) * ((wx2.toInt64) - (wx1.toInt64))))])) _
    refine XS.ladd X4.here hx rfl (hb hby d3_33) rfl ?_
    show Steps p.tables e below (T4.setTop (mkF m 34 #[.val (.ref a1), .val (.ref a2), .val (.long ((wx2.toInt64) - (wx1.toInt64))), .second, .val (.long ((wy2.toInt64) - (wy1.toInt64))), .second] [(.long ((((wx2.toInt64) - (wx1.toInt64)) * ((wx2.toInt64) - (wx1.toInt64))) + (((wy2.toInt64) - (wy1.toInt64)) * ((wy2.toInt64) - (wy1.toInt64)))))])) _
    jvm_step X4.here [X4.here.top, hx, (hb hby d3_34), X4.method', Bd.returns, narrow]
    first | (intro acts; rw [hr _ acts rfl rfl rfl]) | rw [hr _ _ rfl rfl rfl]
    exact Steps.refl _
  · show Q3 Z a1 a2 wx1 wy1 wx2 wy2 h0 n0 _ T4.heap _
    rw [e4]
    exact ⟨rfl, N0, rfl⟩
theorem pd_0 : parseMethodDescriptor "(II)V" = some ⟨[.int, .int], none⟩ := by decide +kernel
theorem pd_1 : parseMethodDescriptor "(Lcom/example/dotchord/dotchord/typing/Point;)J" = some ⟨[(.object "com/example/dotchord/dotchord/typing/Point")], some .long⟩ := by decide +kernel
theorem pn_1 : plainName "com/example/dotchord/dotchord/typing/PointDistanceSquaredToPinLaw" = true := by first | (simp [plainName, overriddenIn]; done) | decide +kernel
theorem ef_0 (m : MethodId) (p1 : Int32) (p2 : Int32) (p3 : Int32) (p4 : Int32) : entryFrame m #[(.int p1), (.int p2), (.int p3), (.int p4)] maxLocals = mkF m 0 #[.val (.int p1), .val (.int p2), .val (.int p3), .val (.int p4), .unset, .unset, .unset, .unset, .unset, .unset, .unset, .unset, .unset, .unset, .unset, .unset] [] := by first | (simp [entryFrame, mkF, argsToLocals, Value.category, maxLocals]; done) | rfl
def j0_101_s0 (p1 : Int32) (p2 : Int32) (p3 : Int32) (p4 : Int32) : Int32 := (if (lcmpW (v3 p1 p2 p3 p4) (((((((p3.toInt64) * (p3.toInt64)) - (((2 : Int64) * (p1.toInt64)) * (p3.toInt64))) + ((p1.toInt64) * (p1.toInt64))) + ((p4.toInt64) * (p4.toInt64))) - (((2 : Int64) * (p2.toInt64)) * (p4.toInt64))) + ((p2.toInt64) * (p2.toInt64)))) = (0 : Int32) then (1 : Int32) else (0 : Int32))
def v0 (p1 : Int32) (p2 : Int32) (p3 : Int32) (p4 : Int32) : Int32 := (j0_101_s0 p1 p2 p3 p4)
def Q0 (Z : State) (p1 : Int32) (p2 : Int32) (p3 : Int32) (p4 : Int32) (h0 : Heap) (n0 : Nat) (v : Option Value) (h : Heap) (L : List Loc) : Prop := v = some (.int (v0 p1 p2 p3 p4)) ∧ Fr n0 L ∧ True
set_option maxRecDepth 65536 in
set_option maxHeartbeats 40000000 in
theorem rm0 (l : Launch) (Z : State) (a0 : Array Value) (hw : ∀ d ∈ tables_1, d.before a0 Z = true) (ws : List Jvm.Cond) (p1 : Int32) (p2 : Int32) (p3 : Int32) (p4 : Int32) (h0 : Heap) (n0 : Nat) (Z0 : n0 ≤ h0.size) :
    MetFree l x (head1 (Jvm.Cond.code x code maxLocals ret :: ws) room_1) (fun a U => a = #[(.int p1), (.int p2), (.int p3), (.int p4)] ∧ Z.Warmed39 U.vm ∧ U.heap = h0) (fun _ _ _ _ _ => True) (fun _ U o U' => ∃ v L, o = .returned v ∧ Q0 Z p1 p2 p3 p4 h0 n0 v U'.heap L ∧ FrameEnd U o U' L room_1.cells room_1.slots) := by
  refine MetFree.of_bodySF (plainFor_of_name pn_1) hisR ?_
  intro p e s m args below meth c s₁ Bd hml0 hP hK
  obtain ⟨rfl, hZ, hh⟩ := hP
  have hx := Bd.exec
  have hby := Bd.bytes
  have hml : c.maxLocals = 16 := hml0
  have hown : s.vm.findClass "com/example/dotchord/dotchord/typing/PointDistanceSquaredToPinLaw" = some m.cls := findClass_of_methodNamed Bd.named
  have hnm := (name_of_methodNamed Bd.named Bd.method).1
  have X0 : Stand p l e room_1 s m #[(.int p1), (.int p2), (.int p3), (.int p4)] below meth c s₁ [] 0 0 := Stand.of_body Bd
  have e0 : s₁.heap = h0 := by rw [← hh, Bd.state]; rfl
  have N0 := Fr.nil n0
  have pre0 : ∀ t, Steps p.tables e below (s₁.setTop (mkF m 0 #[.val (.int p1), .val (.int p2), .val (.int p3), .val (.int p4), .unset, .unset, .unset, .unset, .unset, .unset, .unset, .unset, .unset, .unset, .unset, .unset] [])) t → Steps p.tables e below (s₁.setTop (entryFrame m #[(.int p1), (.int p2), (.int p3), (.int p4)] maxLocals)) t := fun t k => castTop (ef_0 m p1 p2 p3 p4) k
  obtain ⟨T1, h1, X1, e1, E1, A1, D1, -, st1⟩ := newO X0 hx hZ hown (hw _ (List.mem_of_getElem? (i := 0) rfl)) (hw _ (List.mem_of_getElem? (i := 1) rfl)) (hw _ (List.mem_of_getElem? (i := 2) rfl)) e0 (g := (mkF m 0 #[.val (.int p1), .val (.int p2), .val (.int p3), .val (.int p4), .unset, .unset, .unset, .unset, .unset, .unset, .unset, .unset, .unset, .unset, .unset, .unset] [])) rfl (hb hby at_0) (by decide) (by decide)
  obtain ⟨b1, g1⟩ : ∃ z, z = h0.size := ⟨_, rfl⟩
  rw [← g1] at A1 D1 st1
  have g_b1 : n0 ≤ b1 := Nat.le_trans Z0 (Nat.le_of_eq g1.symm)
  have Z1 : n0 ≤ h1.size := Nat.le_trans Z0 E1.1
  have F_x_b1 : Fld Z h1 b1 "com/example/dotchord/dotchord/typing/Point" "x" "I" (.int (0 : Int32)) := D1 (Or.inr (hw _ (List.mem_of_getElem? (i := 10) rfl))) (ty := .int) (by decide)
  have F_y_b1 : Fld Z h1 b1 "com/example/dotchord/dotchord/typing/Point" "y" "I" (.int (0 : Int32)) := D1 (Or.inr (hw _ (List.mem_of_getElem? (i := 12) rfl))) (ty := .int) (by decide)
  obtain ⟨_, _, ⟨T2, L2, k2, n2⟩, -, X2, ⟨Lc2, hQ2, l2, y2, z2⟩, st2⟩ := X1.specialBack hx (y := (⟨"com/example/dotchord/dotchord/typing/Point", "<init>", "(II)V"⟩ : MethodName)) rfl hown (mvT hZ (hw _ (List.mem_of_getElem? (i := 3) rfl))) (mvT hZ (hw _ (List.mem_of_getElem? (i := 4) rfl))) (mvT hZ (hw _ (List.mem_of_getElem? (i := 5) rfl))) (by decide) (backOf (W := 1) (rm1 l Z a0 hw [] b1 p1 p2 h1 n0 Z1 F_x_b1 F_y_b1 A1 g_b1) hZ (hw _ (List.mem_of_getElem? (i := 5) rfl)) (hw _ (List.mem_of_getElem? (i := 2) rfl)) (by decide) (by decide)) (g := (mkF m 6 #[.val (.int p1), .val (.int p2), .val (.int p3), .val (.int p4), .unset, .unset, .unset, .unset, .unset, .unset, .unset, .unset, .unset, .unset, .unset, .unset] [(.int p2), (.int p1), (.ref b1), (.ref b1)])) rfl (by rw [hml]; rfl) (Steps.refl _) (a := b1) (argsL := [(.int p1), (.int p2)]) (rest := [(.ref b1)]) (lenOf pd_0 rfl) rfl (by show 2 * 0 + _ ≤ _; exact Nat.le_of_eq rfl) (hb hby at_6) (fun _ _ => ⟨rfl, e1, (by decide : 1 + 0 ≤ _), (by decide : 2 + 0 ≤ _)⟩)
  dsimp only [Pt.U, Pt.locs, Pt.cells, Pt.slots] at X2 l2 y2 z2 st2 hQ2
  subst l2 y2 z2
  obtain ⟨rfl, N2q, K2, u2_0, u2_1, u2_2⟩ := hQ2
  have Z2 : n0 ≤ T2.heap.size := Nat.le_trans Z1 K2.1
  have N2 := Fr.app N0 N2q
  obtain ⟨T3, h3, X3, e3, E3, A3, D3, -, st3⟩ := newO X2 hx hZ hown (hw _ (List.mem_of_getElem? (i := 0) rfl)) (hw _ (List.mem_of_getElem? (i := 1) rfl)) (hw _ (List.mem_of_getElem? (i := 2) rfl)) rfl (g := (mkF m 11 #[.val (.int p1), .val (.int p2), .val (.int p3), .val (.int p4), .val (.ref b1), .unset, .unset, .unset, .unset, .unset, .unset, .unset, .unset, .unset, .unset, .unset] [])) rfl (hb hby at_11) (by decide) (by decide)
  obtain ⟨b3, g3⟩ : ∃ z, z = T2.heap.size := ⟨_, rfl⟩
  rw [← g3] at A3 D3 st3
  have ne_b1_b3 : b1 ≠ b3 := Nat.ne_of_lt (Nat.lt_of_lt_of_le u2_0.lt (Nat.le_of_eq g3.symm))
  have F_x_b1_3 := u2_1.ext E3
  have F_y_b1_3 := u2_2.ext E3
  have E_b1_3 := u2_0.ext E3
  have g_b3 : n0 ≤ b3 := Nat.le_trans Z2 (Nat.le_of_eq g3.symm)
  have Z3 : n0 ≤ h3.size := Nat.le_trans Z2 E3.1
  have F_x_b3 : Fld Z h3 b3 "com/example/dotchord/dotchord/typing/Point" "x" "I" (.int (0 : Int32)) := D3 (Or.inr (hw _ (List.mem_of_getElem? (i := 10) rfl))) (ty := .int) (by decide)
  have F_y_b3 : Fld Z h3 b3 "com/example/dotchord/dotchord/typing/Point" "y" "I" (.int (0 : Int32)) := D3 (Or.inr (hw _ (List.mem_of_getElem? (i := 12) rfl))) (ty := .int) (by decide)
  obtain ⟨_, _, ⟨T4, L4, k4, n4⟩, -, X4, ⟨Lc4, hQ4, l4, y4, z4⟩, st4⟩ := X3.specialBack hx (y := (⟨"com/example/dotchord/dotchord/typing/Point", "<init>", "(II)V"⟩ : MethodName)) rfl hown (mvT hZ (hw _ (List.mem_of_getElem? (i := 3) rfl))) (mvT hZ (hw _ (List.mem_of_getElem? (i := 4) rfl))) (mvT hZ (hw _ (List.mem_of_getElem? (i := 5) rfl))) (by decide) (backOf (W := 1) (rm1 l Z a0 hw [] b3 p3 p4 h3 n0 Z3 F_x_b3 F_y_b3 A3 g_b3) hZ (hw _ (List.mem_of_getElem? (i := 5) rfl)) (hw _ (List.mem_of_getElem? (i := 2) rfl)) (by decide) (by decide)) (g := (mkF m 17 #[.val (.int p1), .val (.int p2), .val (.int p3), .val (.int p4), .val (.ref b1), .unset, .unset, .unset, .unset, .unset, .unset, .unset, .unset, .unset, .unset, .unset] [(.int p4), (.int p3), (.ref b3), (.ref b3)])) rfl (by rw [hml]; rfl) (Steps.refl _) (a := b3) (argsL := [(.int p3), (.int p4)]) (rest := [(.ref b3)]) (lenOf pd_0 rfl) rfl (by show 2 * 0 + _ ≤ _; exact Nat.le_of_eq rfl) (hb hby at_17) (fun _ _ => ⟨rfl, e3, (by decide : 2 + 0 ≤ _), (by decide : 4 + 0 ≤ _)⟩)
  dsimp only [Pt.U, Pt.locs, Pt.cells, Pt.slots] at X4 l4 y4 z4 st4 hQ4
  subst l4 y4 z4
  obtain ⟨rfl, N4q, K4, u4_0, u4_1, u4_2⟩ := hQ4
  have F_x_b1_4 := F_x_b1_3.keep K4 (fun q => ne_b1_b3 (List.mem_singleton.mp q))
  have F_y_b1_4 := F_y_b1_3.keep K4 (fun q => ne_b1_b3 (List.mem_singleton.mp q))
  have E_b1_4 := E_b1_3.keep K4
  have Z4 : n0 ≤ T4.heap.size := Nat.le_trans Z3 K4.1
  have N4 := Fr.app N2 N4q
  obtain ⟨cq5, kq5, q5a, q5b, q5c⟩ := isOf hZ rfl E_b1_4
  obtain ⟨_, _, ⟨T5, L5, k5, n5⟩, -, X5, ⟨Lc5, hQ5, l5, y5, z5⟩, st5⟩ := X4.virtualBack hx (y := (⟨"com/example/dotchord/dotchord/typing/Point", "distanceSquaredTo", "(Lcom/example/dotchord/dotchord/typing/Point;)J"⟩ : MethodName)) (z := (⟨"com/example/dotchord/dotchord/typing/Point", "distanceSquaredTo", "(Lcom/example/dotchord/dotchord/typing/Point;)J"⟩ : MethodName)) hown (mvT hZ (hw _ (List.mem_of_getElem? (i := 14) rfl))) (mvT hZ (hw _ (List.mem_of_getElem? (i := 15) rfl))) (notFace_of_selects (args := #[]) (mvT hZ (hw _ (List.mem_of_getElem? (i := 17) rfl)))) (mvT hZ (hw _ (List.mem_of_getElem? (i := 17) rfl))) (mvT hZ (hw _ (List.mem_of_getElem? (i := 16) rfl))) (by decide) (backOf (W := 0) (rm3 l Z a0 hw [] b1 b3 p1 p2 p3 p4 T4.heap n0 Z4 F_x_b1_4 F_y_b1_4 u4_1 u4_2) hZ (hw _ (List.mem_of_getElem? (i := 18) rfl)) (hw _ (List.mem_of_getElem? (i := 2) rfl)) (by decide) (by decide)) q5a q5c (g := (mkF m 87 #[.val (.int p1), .val (.int p2), .val (.int p3), .val (.int p4), .val (.ref b1), .val (.ref b3), .val (.long (p1.toInt64)), .second, .val (.long (p2.toInt64)), .second, .val (.long (p3.toInt64)), .second, .val (.long (p4.toInt64)), .second, .val (.long (((((((p3.toInt64) * (p3.toInt64)) - (((2 : Int64) * (p1.toInt64)) * (p3.toInt64))) + ((p1.toInt64) * (p1.toInt64))) + ((p4.toInt64) * (p4.toInt64))) - (((2 : Int64) * (p2.toInt64)) * (p4.toInt64))) + ((p2.toInt64) * (p2.toInt64)))), .second] [(.ref b3), (.ref b1)])) rfl (by rw [hml]; rfl) (Steps.refl _) (argsL := [(.ref b3)]) (rest := []) (lenOf pd_1 rfl) rfl (by show 2 * 0 + _ ≤ _; exact Nat.le_of_eq rfl) (hb hby at_87) (fun _ _ => ⟨rfl, rfl, (by decide : 2 + 0 ≤ _), (by decide : 4 + 0 ≤ _)⟩)
  dsimp only [Pt.U, Pt.locs, Pt.cells, Pt.slots] at X5 l5 y5 z5 st5 hQ5
  subst l5 y5 z5
  obtain ⟨rfl, N5q, e5⟩ := hQ5
  have N5 := Fr.app N4 N5q
  have sg90_7 : ∀ t, Steps p.tables e below (T5.setTop (mkF m 101 #[.val (.int p1), .val (.int p2), .val (.int p3), .val (.int p4), .val (.ref b1), .val (.ref b3), .val (.long (p1.toInt64)), .second, .val (.long (p2.toInt64)), .second, .val (.long (p3.toInt64)), .second, .val (.long (p4.toInt64)), .second, .val (.long (((((((p3.toInt64) * (p3.toInt64)) - (((2 : Int64) * (p1.toInt64)) * (p3.toInt64))) + ((p1.toInt64) * (p1.toInt64))) + ((p4.toInt64) * (p4.toInt64))) - (((2 : Int64) * (p2.toInt64)) * (p4.toInt64))) + ((p2.toInt64) * (p2.toInt64)))), .second] [(.int (j0_101_s0 p1 p2 p3 p4))])) t → Steps p.tables e below (T5.setTop (mkF m 90 #[.val (.int p1), .val (.int p2), .val (.int p3), .val (.int p4), .val (.ref b1), .val (.ref b3), .val (.long (p1.toInt64)), .second, .val (.long (p2.toInt64)), .second, .val (.long (p3.toInt64)), .second, .val (.long (p4.toInt64)), .second, .val (.long (((((((p3.toInt64) * (p3.toInt64)) - (((2 : Int64) * (p1.toInt64)) * (p3.toInt64))) + ((p1.toInt64) * (p1.toInt64))) + ((p4.toInt64) * (p4.toInt64))) - (((2 : Int64) * (p2.toInt64)) * (p4.toInt64))) + ((p2.toInt64) * (p2.toInt64)))), .second] [(.long (v3 p1 p2 p3 p4))])) t := by
    intro t kt
    show Steps p.tables e below (T5.setTop (mkF m 90 #[.val (.int p1), .val (.int p2), .val (.int p3), .val (.int p4), .val (.ref b1), .val (.ref b3), .val (.long (p1.toInt64)), .second, .val (.long (p2.toInt64)), .second, .val (.long (p3.toInt64)), .second, .val (.long (p4.toInt64)), .second, .val (.long (((((((p3.toInt64) * (p3.toInt64)) - (((2 : Int64) * (p1.toInt64)) * (p3.toInt64))) + ((p1.toInt64) * (p1.toInt64))) + ((p4.toInt64) * (p4.toInt64))) - (((2 : Int64) * (p2.toInt64)) * (p4.toInt64))) + ((p2.toInt64) * (p2.toInt64)))), .second] [(.long (v3 p1 p2 p3 p4))])) _
    refine XS.lload X5.here hx rfl (hb hby at_90) rfl ?_
    show Steps p.tables e below (T5.setTop (mkF m 92 #[.val (.int p1), .val (.int p2), .val (.int p3), .val (.int p4), .val (.ref b1), .val (.ref b3), .val (.long (p1.toInt64)), .second, .val (.long (p2.toInt64)), .second, .val (.long (p3.toInt64)), .second, .val (.long (p4.toInt64)), .second, .val (.long (((((((p3.toInt64) * (p3.toInt64)) - (((2 : Int64) * (p1.toInt64)) * (p3.toInt64))) + ((p1.toInt64) * (p1.toInt64))) + ((p4.toInt64) * (p4.toInt64))) - (((2 : Int64) * (p2.toInt64)) * (p4.toInt64))) + ((p2.toInt64) * (p2.toInt64)))), .second] [(.long (((((((p3.toInt64) * (p3.toInt64)) - (((2 : Int64) * (p1.toInt64)) * (p3.toInt64))) + ((p1.toInt64) * (p1.toInt64))) + ((p4.toInt64) * (p4.toInt64))) - (((2 : Int64) * (p2.toInt64)) * (p4.toInt64))) + ((p2.toInt64) * (p2.toInt64)))), (.long (v3 p1 p2 p3 p4))])) _
    refine XS.lcmp X5.here hx rfl (hb hby at_92) rfl ?_
    show Steps p.tables e below (T5.setTop (mkF m 93 #[.val (.int p1), .val (.int p2), .val (.int p3), .val (.int p4), .val (.ref b1), .val (.ref b3), .val (.long (p1.toInt64)), .second, .val (.long (p2.toInt64)), .second, .val (.long (p3.toInt64)), .second, .val (.long (p4.toInt64)), .second, .val (.long (((((((p3.toInt64) * (p3.toInt64)) - (((2 : Int64) * (p1.toInt64)) * (p3.toInt64))) + ((p1.toInt64) * (p1.toInt64))) + ((p4.toInt64) * (p4.toInt64))) - (((2 : Int64) * (p2.toInt64)) * (p4.toInt64))) + ((p2.toInt64) * (p2.toInt64)))), .second] [(.int (lcmpW (v3 p1 p2 p3 p4) (((((((p3.toInt64) * (p3.toInt64)) - (((2 : Int64) * (p1.toInt64)) * (p3.toInt64))) + ((p1.toInt64) * (p1.toInt64))) + ((p4.toInt64) * (p4.toInt64))) - (((2 : Int64) * (p2.toInt64)) * (p4.toInt64))) + ((p2.toInt64) * (p2.toInt64)))))])) _
    by_cases hc93_6 : (lcmpW (v3 p1 p2 p3 p4) (((((((p3.toInt64) * (p3.toInt64)) - (((2 : Int64) * (p1.toInt64)) * (p3.toInt64))) + ((p1.toInt64) * (p1.toInt64))) + ((p4.toInt64) * (p4.toInt64))) - (((2 : Int64) * (p2.toInt64)) * (p4.toInt64))) + ((p2.toInt64) * (p2.toInt64)))) = (0 : Int32)
    · refine XS.ifNo X5.here hx rfl (hb hby at_93) rfl ((if0 _ _).trans (teq hc93_6).2) ?_
      show Steps p.tables e below (T5.setTop (mkF m 96 #[.val (.int p1), .val (.int p2), .val (.int p3), .val (.int p4), .val (.ref b1), .val (.ref b3), .val (.long (p1.toInt64)), .second, .val (.long (p2.toInt64)), .second, .val (.long (p3.toInt64)), .second, .val (.long (p4.toInt64)), .second, .val (.long (((((((p3.toInt64) * (p3.toInt64)) - (((2 : Int64) * (p1.toInt64)) * (p3.toInt64))) + ((p1.toInt64) * (p1.toInt64))) + ((p4.toInt64) * (p4.toInt64))) - (((2 : Int64) * (p2.toInt64)) * (p4.toInt64))) + ((p2.toInt64) * (p2.toInt64)))), .second] [])) _
      refine XS.iconst X5.here hx rfl (hb hby at_96) ?_
      show Steps p.tables e below (T5.setTop (mkF m 97 #[.val (.int p1), .val (.int p2), .val (.int p3), .val (.int p4), .val (.ref b1), .val (.ref b3), .val (.long (p1.toInt64)), .second, .val (.long (p2.toInt64)), .second, .val (.long (p3.toInt64)), .second, .val (.long (p4.toInt64)), .second, .val (.long (((((((p3.toInt64) * (p3.toInt64)) - (((2 : Int64) * (p1.toInt64)) * (p3.toInt64))) + ((p1.toInt64) * (p1.toInt64))) + ((p4.toInt64) * (p4.toInt64))) - (((2 : Int64) * (p2.toInt64)) * (p4.toInt64))) + ((p2.toInt64) * (p2.toInt64)))), .second] [(.int (1 : Int32))])) _
      refine XS.goto X5.here hx rfl (pc0 := 97) (pc' := 101) rfl (hb hby at_97) (by decide) (by decide) ?_
      rw [show (j0_101_s0 p1 p2 p3 p4) = (1 : Int32) from (if_pos hc93_6)] at kt
      exact kt
    · refine XS.ifYes X5.here hx rfl (pc0 := 93) (pc' := 100) rfl (hb hby at_93) rfl ((if0 _ _).trans (feq hc93_6).2) (by decide) (by decide) ?_
      show Steps p.tables e below (T5.setTop (mkF m 100 #[.val (.int p1), .val (.int p2), .val (.int p3), .val (.int p4), .val (.ref b1), .val (.ref b3), .val (.long (p1.toInt64)), .second, .val (.long (p2.toInt64)), .second, .val (.long (p3.toInt64)), .second, .val (.long (p4.toInt64)), .second, .val (.long (((((((p3.toInt64) * (p3.toInt64)) - (((2 : Int64) * (p1.toInt64)) * (p3.toInt64))) + ((p1.toInt64) * (p1.toInt64))) + ((p4.toInt64) * (p4.toInt64))) - (((2 : Int64) * (p2.toInt64)) * (p4.toInt64))) + ((p2.toInt64) * (p2.toInt64)))), .second] [])) _
      refine XS.iconst X5.here hx rfl (hb hby at_100) ?_
      rw [show (j0_101_s0 p1 p2 p3 p4) = (0 : Int32) from (if_neg hc93_6)] at kt
      exact kt
  have hnar : nar .boolean (j0_101_s0 p1 p2 p3 p4) = (j0_101_s0 p1 p2 p3 p4) := by
    unfold j0_101_s0
    repeat' split
    all_goals rfl
  obtain ⟨fs, hr, hrun, hended, hW, hsame⟩ := X5.leave (v := some (.int (j0_101_s0 p1 p2 p3 p4))) (fun h => by rw [Bd.returns] at h; cases h)
  refine ⟨_, _, pre0 _ ?_, hrun, hended, _, _, rfl, ?_, ⟨_, rfl⟩, hW, hsame.mono (by decide) (by decide)⟩
  · show Steps p.tables e below (s₁.setTop (mkF m 0 #[.val (.int p1), .val (.int p2), .val (.int p3), .val (.int p4), .unset, .unset, .unset, .unset, .unset, .unset, .unset, .unset, .unset, .unset, .unset, .unset] [])) _
    refine st1 _ ?_
    show Steps p.tables e below (T1.setTop (mkF m 3 #[.val (.int p1), .val (.int p2), .val (.int p3), .val (.int p4), .unset, .unset, .unset, .unset, .unset, .unset, .unset, .unset, .unset, .unset, .unset, .unset] [(.ref b1)])) _
    refine XS.dup X1.here hx rfl (hb hby at_3) rfl rfl ?_
    show Steps p.tables e below (T1.setTop (mkF m 4 #[.val (.int p1), .val (.int p2), .val (.int p3), .val (.int p4), .unset, .unset, .unset, .unset, .unset, .unset, .unset, .unset, .unset, .unset, .unset, .unset] [(.ref b1), (.ref b1)])) _
    refine XS.iloadN X1.here hx rfl (hb hby at_4) rfl ?_
    show Steps p.tables e below (T1.setTop (mkF m 5 #[.val (.int p1), .val (.int p2), .val (.int p3), .val (.int p4), .unset, .unset, .unset, .unset, .unset, .unset, .unset, .unset, .unset, .unset, .unset, .unset] [(.int p1), (.ref b1), (.ref b1)])) _
    refine XS.iloadN X1.here hx rfl (hb hby at_5) rfl ?_
    show Steps p.tables e below (T1.setTop (mkF m 6 #[.val (.int p1), .val (.int p2), .val (.int p3), .val (.int p4), .unset, .unset, .unset, .unset, .unset, .unset, .unset, .unset, .unset, .unset, .unset, .unset] [(.int p2), (.int p1), (.ref b1), (.ref b1)])) _
    refine st2.trans ?_
    show Steps p.tables e below (T2.setTop (mkF m 9 #[.val (.int p1), .val (.int p2), .val (.int p3), .val (.int p4), .unset, .unset, .unset, .unset, .unset, .unset, .unset, .unset, .unset, .unset, .unset, .unset] [(.ref b1)])) _
    refine XS.astore X2.here hx rfl (hb hby at_9) rfl rfl (l' := #[.val (.int p1), .val (.int p2), .val (.int p3), .val (.int p4), .val (.ref b1), .unset, .unset, .unset, .unset, .unset, .unset, .unset, .unset, .unset, .unset, .unset]) rfl ?_
    show Steps p.tables e below (T2.setTop (mkF m 11 #[.val (.int p1), .val (.int p2), .val (.int p3), .val (.int p4), .val (.ref b1), .unset, .unset, .unset, .unset, .unset, .unset, .unset, .unset, .unset, .unset, .unset] [])) _
    refine st3 _ ?_
    show Steps p.tables e below (T3.setTop (mkF m 14 #[.val (.int p1), .val (.int p2), .val (.int p3), .val (.int p4), .val (.ref b1), .unset, .unset, .unset, .unset, .unset, .unset, .unset, .unset, .unset, .unset, .unset] [(.ref b3)])) _
    refine XS.dup X3.here hx rfl (hb hby at_14) rfl rfl ?_
    show Steps p.tables e below (T3.setTop (mkF m 15 #[.val (.int p1), .val (.int p2), .val (.int p3), .val (.int p4), .val (.ref b1), .unset, .unset, .unset, .unset, .unset, .unset, .unset, .unset, .unset, .unset, .unset] [(.ref b3), (.ref b3)])) _
    refine XS.iloadN X3.here hx rfl (hb hby at_15) rfl ?_
    show Steps p.tables e below (T3.setTop (mkF m 16 #[.val (.int p1), .val (.int p2), .val (.int p3), .val (.int p4), .val (.ref b1), .unset, .unset, .unset, .unset, .unset, .unset, .unset, .unset, .unset, .unset, .unset] [(.int p3), (.ref b3), (.ref b3)])) _
    refine XS.iloadN X3.here hx rfl (hb hby at_16) rfl ?_
    show Steps p.tables e below (T3.setTop (mkF m 17 #[.val (.int p1), .val (.int p2), .val (.int p3), .val (.int p4), .val (.ref b1), .unset, .unset, .unset, .unset, .unset, .unset, .unset, .unset, .unset, .unset, .unset] [(.int p4), (.int p3), (.ref b3), (.ref b3)])) _
    refine st4.trans ?_
    show Steps p.tables e below (T4.setTop (mkF m 20 #[.val (.int p1), .val (.int p2), .val (.int p3), .val (.int p4), .val (.ref b1), .unset, .unset, .unset, .unset, .unset, .unset, .unset, .unset, .unset, .unset, .unset] [(.ref b3)])) _
    refine XS.astore X4.here hx rfl (hb hby at_20) rfl rfl (l' := #[.val (.int p1), .val (.int p2), .val (.int p3), .val (.int p4), .val (.ref b1), .val (.ref b3), .unset, .unset, .unset, .unset, .unset, .unset, .unset, .unset, .unset, .unset]) rfl ?_
    show Steps p.tables e below (T4.setTop (mkF m 22 #[.val (.int p1), .val (.int p2), .val (.int p3), .val (.int p4), .val (.ref b1), .val (.ref b3), .unset, .unset, .unset, .unset, .unset, .unset, .unset, .unset, .unset, .unset] [])) _
    refine XS.iloadN X4.here hx rfl (hb hby at_22) rfl ?_
    show Steps p.tables e below (T4.setTop (mkF m 23 #[.val (.int p1), .val (.int p2), .val (.int p3), .val (.int p4), .val (.ref b1), .val (.ref b3), .unset, .unset, .unset, .unset, .unset, .unset, .unset, .unset, .unset, .unset] [(.int p1)])) _
    refine XS.i2l X4.here hx rfl (hb hby at_23) rfl ?_
    show Steps p.tables e below (T4.setTop (mkF m 24 #[.val (.int p1), .val (.int p2), .val (.int p3), .val (.int p4), .val (.ref b1), .val (.ref b3), .unset, .unset, .unset, .unset, .unset, .unset, .unset, .unset, .unset, .unset] [(.long (p1.toInt64))])) _
    refine XS.lstore X4.here hx rfl (hb hby at_24) rfl (l' := #[.val (.int p1), .val (.int p2), .val (.int p3), .val (.int p4), .val (.ref b1), .val (.ref b3), .val (.long (p1.toInt64)), .second, .unset, .unset, .unset, .unset, .unset, .unset, .unset, .unset]) rfl ?_
    show Steps p.tables e below (T4.setTop (mkF m 26 #[.val (.int p1), .val (.int p2), .val (.int p3), .val (.int p4), .val (.ref b1), .val (.ref b3), .val (.long (p1.toInt64)), .second, .unset, .unset, .unset, .unset, .unset, .unset, .unset, .unset] [])) _
    refine XS.iloadN X4.here hx rfl (hb hby at_26) rfl ?_
    show Steps p.tables e below (T4.setTop (mkF m 27 #[.val (.int p1), .val (.int p2), .val (.int p3), .val (.int p4), .val (.ref b1), .val (.ref b3), .val (.long (p1.toInt64)), .second, .unset, .unset, .unset, .unset, .unset, .unset, .unset, .unset] [(.int p2)])) _
    refine XS.i2l X4.here hx rfl (hb hby at_27) rfl ?_
    show Steps p.tables e below (T4.setTop (mkF m 28 #[.val (.int p1), .val (.int p2), .val (.int p3), .val (.int p4), .val (.ref b1), .val (.ref b3), .val (.long (p1.toInt64)), .second, .unset, .unset, .unset, .unset, .unset, .unset, .unset, .unset] [(.long (p2.toInt64))])) _
    refine XS.lstore X4.here hx rfl (hb hby at_28) rfl (l' := #[.val (.int p1), .val (.int p2), .val (.int p3), .val (.int p4), .val (.ref b1), .val (.ref b3), .val (.long (p1.toInt64)), .second, .val (.long (p2.toInt64)), .second, .unset, .unset, .unset, .unset, .unset, .unset]) rfl ?_
    show Steps p.tables e below (T4.setTop (mkF m 30 #[.val (.int p1), .val (.int p2), .val (.int p3), .val (.int p4), .val (.ref b1), .val (.ref b3), .val (.long (p1.toInt64)), .second, .val (.long (p2.toInt64)), .second, .unset, .unset, .unset, .unset, .unset, .unset] [])) _
    refine XS.iloadN X4.here hx rfl (hb hby at_30) rfl ?_
    show Steps p.tables e below (T4.setTop (mkF m 31 #[.val (.int p1), .val (.int p2), .val (.int p3), .val (.int p4), .val (.ref b1), .val (.ref b3), .val (.long (p1.toInt64)), .second, .val (.long (p2.toInt64)), .second, .unset, .unset, .unset, .unset, .unset, .unset] [(.int p3)])) _
    refine XS.i2l X4.here hx rfl (hb hby at_31) rfl ?_
    show Steps p.tables e below (T4.setTop (mkF m 32 #[.val (.int p1), .val (.int p2), .val (.int p3), .val (.int p4), .val (.ref b1), .val (.ref b3), .val (.long (p1.toInt64)), .second, .val (.long (p2.toInt64)), .second, .unset, .unset, .unset, .unset, .unset, .unset] [(.long (p3.toInt64))])) _
    refine XS.lstore X4.here hx rfl (hb hby at_32) rfl (l' := #[.val (.int p1), .val (.int p2), .val (.int p3), .val (.int p4), .val (.ref b1), .val (.ref b3), .val (.long (p1.toInt64)), .second, .val (.long (p2.toInt64)), .second, .val (.long (p3.toInt64)), .second, .unset, .unset, .unset, .unset]) rfl ?_
    show Steps p.tables e below (T4.setTop (mkF m 34 #[.val (.int p1), .val (.int p2), .val (.int p3), .val (.int p4), .val (.ref b1), .val (.ref b3), .val (.long (p1.toInt64)), .second, .val (.long (p2.toInt64)), .second, .val (.long (p3.toInt64)), .second, .unset, .unset, .unset, .unset] [])) _
    refine XS.iloadN X4.here hx rfl (hb hby at_34) rfl ?_
    show Steps p.tables e below (T4.setTop (mkF m 35 #[.val (.int p1), .val (.int p2), .val (.int p3), .val (.int p4), .val (.ref b1), .val (.ref b3), .val (.long (p1.toInt64)), .second, .val (.long (p2.toInt64)), .second, .val (.long (p3.toInt64)), .second, .unset, .unset, .unset, .unset] [(.int p4)])) _
    refine XS.i2l X4.here hx rfl (hb hby at_35) rfl ?_
    show Steps p.tables e below (T4.setTop (mkF m 36 #[.val (.int p1), .val (.int p2), .val (.int p3), .val (.int p4), .val (.ref b1), .val (.ref b3), .val (.long (p1.toInt64)), .second, .val (.long (p2.toInt64)), .second, .val (.long (p3.toInt64)), .second, .unset, .unset, .unset, .unset] [(.long (p4.toInt64))])) _
    refine XS.lstore X4.here hx rfl (hb hby at_36) rfl (l' := #[.val (.int p1), .val (.int p2), .val (.int p3), .val (.int p4), .val (.ref b1), .val (.ref b3), .val (.long (p1.toInt64)), .second, .val (.long (p2.toInt64)), .second, .val (.long (p3.toInt64)), .second, .val (.long (p4.toInt64)), .second, .unset, .unset]) rfl ?_
    show Steps p.tables e below (T4.setTop (mkF m 38 #[.val (.int p1), .val (.int p2), .val (.int p3), .val (.int p4), .val (.ref b1), .val (.ref b3), .val (.long (p1.toInt64)), .second, .val (.long (p2.toInt64)), .second, .val (.long (p3.toInt64)), .second, .val (.long (p4.toInt64)), .second, .unset, .unset] [])) _
    refine XS.lload X4.here hx rfl (hb hby at_38) rfl ?_
    show Steps p.tables e below (T4.setTop (mkF m 40 #[.val (.int p1), .val (.int p2), .val (.int p3), .val (.int p4), .val (.ref b1), .val (.ref b3), .val (.long (p1.toInt64)), .second, .val (.long (p2.toInt64)), .second, .val (.long (p3.toInt64)), .second, .val (.long (p4.toInt64)), .second, .unset, .unset] [(.long (p3.toInt64))])) _
    refine XS.lload X4.here hx rfl (hb hby at_40) rfl ?_
    show Steps p.tables e below (T4.setTop (mkF m 42 #[.val (.int p1), .val (.int p2), .val (.int p3), .val (.int p4), .val (.ref b1), .val (.ref b3), .val (.long (p1.toInt64)), .second, .val (.long (p2.toInt64)), .second, .val (.long (p3.toInt64)), .second, .val (.long (p4.toInt64)), .second, .unset, .unset] [(.long (p3.toInt64)), (.long (p3.toInt64))])) _
    refine XS.lmul X4.here hx rfl (hb hby at_42) rfl ?_
    show Steps p.tables e below (T4.setTop (mkF m 43 #[.val (.int p1), .val (.int p2), .val (.int p3), .val (.int p4), .val (.ref b1), .val (.ref b3), .val (.long (p1.toInt64)), .second, .val (.long (p2.toInt64)), .second, .val (.long (p3.toInt64)), .second, .val (.long (p4.toInt64)), .second, .unset, .unset] [(.long ((p3.toInt64) * (p3.toInt64)))])) _
    refine X4.ldc2Long hx hown (mvT hZ (hw _ (List.mem_of_getElem? (i := 13) rfl))) (g := (mkF m 43 #[.val (.int p1), .val (.int p2), .val (.int p3), .val (.int p4), .val (.ref b1), .val (.ref b3), .val (.long (p1.toInt64)), .second, .val (.long (p2.toInt64)), .second, .val (.long (p3.toInt64)), .second, .val (.long (p4.toInt64)), .second, .unset, .unset] [(.long ((p3.toInt64) * (p3.toInt64)))])) rfl (hb hby at_43) _ ?_
    show Steps p.tables e below (T4.setTop (mkF m 46 #[.val (.int p1), .val (.int p2), .val (.int p3), .val (.int p4), .val (.ref b1), .val (.ref b3), .val (.long (p1.toInt64)), .second, .val (.long (p2.toInt64)), .second, .val (.long (p3.toInt64)), .second, .val (.long (p4.toInt64)), .second, .unset, .unset] [(.long (2 : Int64)), (.long ((p3.toInt64) * (p3.toInt64)))])) _
    refine XS.lload X4.here hx rfl (hb hby at_46) rfl ?_
    show Steps p.tables e below (T4.setTop (mkF m 48 #[.val (.int p1), .val (.int p2), .val (.int p3), .val (.int p4), .val (.ref b1), .val (.ref b3), .val (.long (p1.toInt64)), .second, .val (.long (p2.toInt64)), .second, .val (.long (p3.toInt64)), .second, .val (.long (p4.toInt64)), .second, .unset, .unset] [(.long (p1.toInt64)), (.long (2 : Int64)), (.long ((p3.toInt64) * (p3.toInt64)))])) _
    refine XS.lmul X4.here hx rfl (hb hby at_48) rfl ?_
    show Steps p.tables e below (T4.setTop (mkF m 49 #[.val (.int p1), .val (.int p2), .val (.int p3), .val (.int p4), .val (.ref b1), .val (.ref b3), .val (.long (p1.toInt64)), .second, .val (.long (p2.toInt64)), .second, .val (.long (p3.toInt64)), .second, .val (.long (p4.toInt64)), .second, .unset, .unset] [(.long ((2 : Int64) * (p1.toInt64))), (.long ((p3.toInt64) * (p3.toInt64)))])) _
    refine XS.lload X4.here hx rfl (hb hby at_49) rfl ?_
    show Steps p.tables e below (T4.setTop (mkF m 51 #[.val (.int p1), .val (.int p2), .val (.int p3), .val (.int p4), .val (.ref b1), .val (.ref b3), .val (.long (p1.toInt64)), .second, .val (.long (p2.toInt64)), .second, .val (.long (p3.toInt64)), .second, .val (.long (p4.toInt64)), .second, .unset, .unset] [(.long (p3.toInt64)), (.long ((2 : Int64) * (p1.toInt64))), (.long ((p3.toInt64) * (p3.toInt64)))])) _
    refine XS.lmul X4.here hx rfl (hb hby at_51) rfl ?_
    show Steps p.tables e below (T4.setTop (mkF m 52 #[.val (.int p1), .val (.int p2), .val (.int p3), .val (.int p4), .val (.ref b1), .val (.ref b3), .val (.long (p1.toInt64)), .second, .val (.long (p2.toInt64)), .second, .val (.long (p3.toInt64)), .second, .val (.long (p4.toInt64)), .second, .unset, .unset] [(.long (((2 : Int64) * (p1.toInt64)) * (p3.toInt64))), (.long ((p3.toInt64) * (p3.toInt64)))])) _
    refine XS.lsub X4.here hx rfl (hb hby at_52) rfl ?_
    show Steps p.tables e below (T4.setTop (mkF m 53 #[.val (.int p1), .val (.int p2), .val (.int p3), .val (.int p4), .val (.ref b1), .val (.ref b3), .val (.long (p1.toInt64)), .second, .val (.long (p2.toInt64)), .second, .val (.long (p3.toInt64)), .second, .val (.long (p4.toInt64)), .second, .unset, .unset] [(.long (((p3.toInt64) * (p3.toInt64)) - (((2 : Int64) * (p1.toInt64)) * (p3.toInt64))))])) _
    refine XS.lload X4.here hx rfl (hb hby at_53) rfl ?_
    show Steps p.tables e below (T4.setTop (mkF m 55 #[.val (.int p1), .val (.int p2), .val (.int p3), .val (.int p4), .val (.ref b1), .val (.ref b3), .val (.long (p1.toInt64)), .second, .val (.long (p2.toInt64)), .second, .val (.long (p3.toInt64)), .second, .val (.long (p4.toInt64)), .second, .unset, .unset] [(.long (p1.toInt64)), (.long (((p3.toInt64) * (p3.toInt64)) - (((2 : Int64) * (p1.toInt64)) * (p3.toInt64))))])) _
    refine XS.lload X4.here hx rfl (hb hby at_55) rfl ?_
    show Steps p.tables e below (T4.setTop (mkF m 57 #[.val (.int p1), .val (.int p2), .val (.int p3), .val (.int p4), .val (.ref b1), .val (.ref b3), .val (.long (p1.toInt64)), .second, .val (.long (p2.toInt64)), .second, .val (.long (p3.toInt64)), .second, .val (.long (p4.toInt64)), .second, .unset, .unset] [(.long (p1.toInt64)), (.long (p1.toInt64)), (.long (((p3.toInt64) * (p3.toInt64)) - (((2 : Int64) * (p1.toInt64)) * (p3.toInt64))))])) _
    refine XS.lmul X4.here hx rfl (hb hby at_57) rfl ?_
    show Steps p.tables e below (T4.setTop (mkF m 58 #[.val (.int p1), .val (.int p2), .val (.int p3), .val (.int p4), .val (.ref b1), .val (.ref b3), .val (.long (p1.toInt64)), .second, .val (.long (p2.toInt64)), .second, .val (.long (p3.toInt64)), .second, .val (.long (p4.toInt64)), .second, .unset, .unset] [(.long ((p1.toInt64) * (p1.toInt64))), (.long (((p3.toInt64) * (p3.toInt64)) - (((2 : Int64) * (p1.toInt64)) * (p3.toInt64))))])) _
    refine XS.ladd X4.here hx rfl (hb hby at_58) rfl ?_
    show Steps p.tables e below (T4.setTop (mkF m 59 #[.val (.int p1), .val (.int p2), .val (.int p3), .val (.int p4), .val (.ref b1), .val (.ref b3), .val (.long (p1.toInt64)), .second, .val (.long (p2.toInt64)), .second, .val (.long (p3.toInt64)), .second, .val (.long (p4.toInt64)), .second, .unset, .unset] [(.long ((((p3.toInt64) * (p3.toInt64)) - (((2 : Int64) * (p1.toInt64)) * (p3.toInt64))) + ((p1.toInt64) * (p1.toInt64))))])) _
    refine XS.lload X4.here hx rfl (hb hby at_59) rfl ?_
    show Steps p.tables e below (T4.setTop (mkF m 61 #[.val (.int p1), .val (.int p2), .val (.int p3), .val (.int p4), .val (.ref b1), .val (.ref b3), .val (.long (p1.toInt64)), .second, .val (.long (p2.toInt64)), .second, .val (.long (p3.toInt64)), .second, .val (.long (p4.toInt64)), .second, .unset, .unset] [(.long (p4.toInt64)), (.long ((((p3.toInt64) * (p3.toInt64)) - (((2 : Int64) * (p1.toInt64)) * (p3.toInt64))) + ((p1.toInt64) * (p1.toInt64))))])) _
    refine XS.lload X4.here hx rfl (hb hby at_61) rfl ?_
    show Steps p.tables e below (T4.setTop (mkF m 63 #[.val (.int p1), .val (.int p2), .val (.int p3), .val (.int p4), .val (.ref b1), .val (.ref b3), .val (.long (p1.toInt64)), .second, .val (.long (p2.toInt64)), .second, .val (.long (p3.toInt64)), .second, .val (.long (p4.toInt64)), .second, .unset, .unset] [(.long (p4.toInt64)), (.long (p4.toInt64)), (.long ((((p3.toInt64) * (p3.toInt64)) - (((2 : Int64) * (p1.toInt64)) * (p3.toInt64))) + ((p1.toInt64) * (p1.toInt64))))])) _
    refine XS.lmul X4.here hx rfl (hb hby at_63) rfl ?_
    show Steps p.tables e below (T4.setTop (mkF m 64 #[.val (.int p1), .val (.int p2), .val (.int p3), .val (.int p4), .val (.ref b1), .val (.ref b3), .val (.long (p1.toInt64)), .second, .val (.long (p2.toInt64)), .second, .val (.long (p3.toInt64)), .second, .val (.long (p4.toInt64)), .second, .unset, .unset] [(.long ((p4.toInt64) * (p4.toInt64))), (.long ((((p3.toInt64) * (p3.toInt64)) - (((2 : Int64) * (p1.toInt64)) * (p3.toInt64))) + ((p1.toInt64) * (p1.toInt64))))])) _
    refine XS.ladd X4.here hx rfl (hb hby at_64) rfl ?_
    show Steps p.tables e below (T4.setTop (mkF m 65 #[.val (.int p1), .val (.int p2), .val (.int p3), .val (.int p4), .val (.ref b1), .val (.ref b3), .val (.long (p1.toInt64)), .second, .val (.long (p2.toInt64)), .second, .val (.long (p3.toInt64)), .second, .val (.long (p4.toInt64)), .second, .unset, .unset] [(.long (((((p3.toInt64) * (p3.toInt64)) - (((2 : Int64) * (p1.toInt64)) * (p3.toInt64))) + ((p1.toInt64) * (p1.toInt64))) + ((p4.toInt64) * (p4.toInt64))))])) _
    refine X4.ldc2Long hx hown (mvT hZ (hw _ (List.mem_of_getElem? (i := 13) rfl))) (g := (mkF m 65 #[.val (.int p1), .val (.int p2), .val (.int p3), .val (.int p4), .val (.ref b1), .val (.ref b3), .val (.long (p1.toInt64)), .second, .val (.long (p2.toInt64)), .second, .val (.long (p3.toInt64)), .second, .val (.long (p4.toInt64)), .second, .unset, .unset] [(.long (((((p3.toInt64) * (p3.toInt64)) - (((2 : Int64) * (p1.toInt64)) * (p3.toInt64))) + ((p1.toInt64) * (p1.toInt64))) + ((p4.toInt64) * (p4.toInt64))))])) rfl (hb hby at_65) _ ?_
    show Steps p.tables e below (T4.setTop (mkF m 68 #[.val (.int p1), .val (.int p2), .val (.int p3), .val (.int p4), .val (.ref b1), .val (.ref b3), .val (.long (p1.toInt64)), .second, .val (.long (p2.toInt64)), .second, .val (.long (p3.toInt64)), .second, .val (.long (p4.toInt64)), .second, .unset, .unset] [(.long (2 : Int64)), (.long (((((p3.toInt64) * (p3.toInt64)) - (((2 : Int64) * (p1.toInt64)) * (p3.toInt64))) + ((p1.toInt64) * (p1.toInt64))) + ((p4.toInt64) * (p4.toInt64))))])) _
    refine XS.lload X4.here hx rfl (hb hby at_68) rfl ?_
    show Steps p.tables e below (T4.setTop (mkF m 70 #[.val (.int p1), .val (.int p2), .val (.int p3), .val (.int p4), .val (.ref b1), .val (.ref b3), .val (.long (p1.toInt64)), .second, .val (.long (p2.toInt64)), .second, .val (.long (p3.toInt64)), .second, .val (.long (p4.toInt64)), .second, .unset, .unset] [(.long (p2.toInt64)), (.long (2 : Int64)), (.long (((((p3.toInt64) * (p3.toInt64)) - (((2 : Int64) * (p1.toInt64)) * (p3.toInt64))) + ((p1.toInt64) * (p1.toInt64))) + ((p4.toInt64) * (p4.toInt64))))])) _
    refine XS.lmul X4.here hx rfl (hb hby at_70) rfl ?_
    show Steps p.tables e below (T4.setTop (mkF m 71 #[.val (.int p1), .val (.int p2), .val (.int p3), .val (.int p4), .val (.ref b1), .val (.ref b3), .val (.long (p1.toInt64)), .second, .val (.long (p2.toInt64)), .second, .val (.long (p3.toInt64)), .second, .val (.long (p4.toInt64)), .second, .unset, .unset] [(.long ((2 : Int64) * (p2.toInt64))), (.long (((((p3.toInt64) * (p3.toInt64)) - (((2 : Int64) * (p1.toInt64)) * (p3.toInt64))) + ((p1.toInt64) * (p1.toInt64))) + ((p4.toInt64) * (p4.toInt64))))])) _
    refine XS.lload X4.here hx rfl (hb hby at_71) rfl ?_
    show Steps p.tables e below (T4.setTop (mkF m 73 #[.val (.int p1), .val (.int p2), .val (.int p3), .val (.int p4), .val (.ref b1), .val (.ref b3), .val (.long (p1.toInt64)), .second, .val (.long (p2.toInt64)), .second, .val (.long (p3.toInt64)), .second, .val (.long (p4.toInt64)), .second, .unset, .unset] [(.long (p4.toInt64)), (.long ((2 : Int64) * (p2.toInt64))), (.long (((((p3.toInt64) * (p3.toInt64)) - (((2 : Int64) * (p1.toInt64)) * (p3.toInt64))) + ((p1.toInt64) * (p1.toInt64))) + ((p4.toInt64) * (p4.toInt64))))])) _
    refine XS.lmul X4.here hx rfl (hb hby at_73) rfl ?_
    show Steps p.tables e below (T4.setTop (mkF m 74 #[.val (.int p1), .val (.int p2), .val (.int p3), .val (.int p4), .val (.ref b1), .val (.ref b3), .val (.long (p1.toInt64)), .second, .val (.long (p2.toInt64)), .second, .val (.long (p3.toInt64)), .second, .val (.long (p4.toInt64)), .second, .unset, .unset] [(.long (((2 : Int64) * (p2.toInt64)) * (p4.toInt64))), (.long (((((p3.toInt64) * (p3.toInt64)) - (((2 : Int64) * (p1.toInt64)) * (p3.toInt64))) + ((p1.toInt64) * (p1.toInt64))) + ((p4.toInt64) * (p4.toInt64))))])) _
    refine XS.lsub X4.here hx rfl (hb hby at_74) rfl ?_
    show Steps p.tables e below (T4.setTop (mkF m 75 #[.val (.int p1), .val (.int p2), .val (.int p3), .val (.int p4), .val (.ref b1), .val (.ref b3), .val (.long (p1.toInt64)), .second, .val (.long (p2.toInt64)), .second, .val (.long (p3.toInt64)), .second, .val (.long (p4.toInt64)), .second, .unset, .unset] [(.long ((((((p3.toInt64) * (p3.toInt64)) - (((2 : Int64) * (p1.toInt64)) * (p3.toInt64))) + ((p1.toInt64) * (p1.toInt64))) + ((p4.toInt64) * (p4.toInt64))) - (((2 : Int64) * (p2.toInt64)) * (p4.toInt64))))])) _
    refine XS.lload X4.here hx rfl (hb hby at_75) rfl ?_
    show Steps p.tables e below (T4.setTop (mkF m 77 #[.val (.int p1), .val (.int p2), .val (.int p3), .val (.int p4), .val (.ref b1), .val (.ref b3), .val (.long (p1.toInt64)), .second, .val (.long (p2.toInt64)), .second, .val (.long (p3.toInt64)), .second, .val (.long (p4.toInt64)), .second, .unset, .unset] [(.long (p2.toInt64)), (.long ((((((p3.toInt64) * (p3.toInt64)) - (((2 : Int64) * (p1.toInt64)) * (p3.toInt64))) + ((p1.toInt64) * (p1.toInt64))) + ((p4.toInt64) * (p4.toInt64))) - (((2 : Int64) * (p2.toInt64)) * (p4.toInt64))))])) _
    refine XS.lload X4.here hx rfl (hb hby at_77) rfl ?_
    show Steps p.tables e below (T4.setTop (mkF m 79 #[.val (.int p1), .val (.int p2), .val (.int p3), .val (.int p4), .val (.ref b1), .val (.ref b3), .val (.long (p1.toInt64)), .second, .val (.long (p2.toInt64)), .second, .val (.long (p3.toInt64)), .second, .val (.long (p4.toInt64)), .second, .unset, .unset] [(.long (p2.toInt64)), (.long (p2.toInt64)), (.long ((((((p3.toInt64) * (p3.toInt64)) - (((2 : Int64) * (p1.toInt64)) * (p3.toInt64))) + ((p1.toInt64) * (p1.toInt64))) + ((p4.toInt64) * (p4.toInt64))) - (((2 : Int64) * (p2.toInt64)) * (p4.toInt64))))])) _
    refine XS.lmul X4.here hx rfl (hb hby at_79) rfl ?_
    show Steps p.tables e below (T4.setTop (mkF m 80 #[.val (.int p1), .val (.int p2), .val (.int p3), .val (.int p4), .val (.ref b1), .val (.ref b3), .val (.long (p1.toInt64)), .second, .val (.long (p2.toInt64)), .second, .val (.long (p3.toInt64)), .second, .val (.long (p4.toInt64)), .second, .unset, .unset] [(.long ((p2.toInt64) * (p2.toInt64))), (.long ((((((p3.toInt64) * (p3.toInt64)) - (((2 : Int64) * (p1.toInt64)) * (p3.toInt64))) + ((p1.toInt64) * (p1.toInt64))) + ((p4.toInt64) * (p4.toInt64))) - (((2 : Int64) * (p2.toInt64)) * (p4.toInt64))))])) _
    refine XS.ladd X4.here hx rfl (hb hby at_80) rfl ?_
    show Steps p.tables e below (T4.setTop (mkF m 81 #[.val (.int p1), .val (.int p2), .val (.int p3), .val (.int p4), .val (.ref b1), .val (.ref b3), .val (.long (p1.toInt64)), .second, .val (.long (p2.toInt64)), .second, .val (.long (p3.toInt64)), .second, .val (.long (p4.toInt64)), .second, .unset, .unset] [(.long (((((((p3.toInt64) * (p3.toInt64)) - (((2 : Int64) * (p1.toInt64)) * (p3.toInt64))) + ((p1.toInt64) * (p1.toInt64))) + ((p4.toInt64) * (p4.toInt64))) - (((2 : Int64) * (p2.toInt64)) * (p4.toInt64))) + ((p2.toInt64) * (p2.toInt64))))])) _
    refine XS.lstore X4.here hx rfl (hb hby at_81) rfl (l' := #[.val (.int p1), .val (.int p2), .val (.int p3), .val (.int p4), .val (.ref b1), .val (.ref b3), .val (.long (p1.toInt64)), .second, .val (.long (p2.toInt64)), .second, .val (.long (p3.toInt64)), .second, .val (.long (p4.toInt64)), .second, .val (.long (((((((p3.toInt64) * (p3.toInt64)) - (((2 : Int64) * (p1.toInt64)) * (p3.toInt64))) + ((p1.toInt64) * (p1.toInt64))) + ((p4.toInt64) * (p4.toInt64))) - (((2 : Int64) * (p2.toInt64)) * (p4.toInt64))) + ((p2.toInt64) * (p2.toInt64)))), .second]) rfl ?_
    show Steps p.tables e below (T4.setTop (mkF m 83 #[.val (.int p1), .val (.int p2), .val (.int p3), .val (.int p4), .val (.ref b1), .val (.ref b3), .val (.long (p1.toInt64)), .second, .val (.long (p2.toInt64)), .second, .val (.long (p3.toInt64)), .second, .val (.long (p4.toInt64)), .second, .val (.long (((((((p3.toInt64) * (p3.toInt64)) - (((2 : Int64) * (p1.toInt64)) * (p3.toInt64))) + ((p1.toInt64) * (p1.toInt64))) + ((p4.toInt64) * (p4.toInt64))) - (((2 : Int64) * (p2.toInt64)) * (p4.toInt64))) + ((p2.toInt64) * (p2.toInt64)))), .second] [])) _
    refine XS.aload X4.here hx rfl (hb hby at_83) rfl rfl ?_
    show Steps p.tables e below (T4.setTop (mkF m 85 #[.val (.int p1), .val (.int p2), .val (.int p3), .val (.int p4), .val (.ref b1), .val (.ref b3), .val (.long (p1.toInt64)), .second, .val (.long (p2.toInt64)), .second, .val (.long (p3.toInt64)), .second, .val (.long (p4.toInt64)), .second, .val (.long (((((((p3.toInt64) * (p3.toInt64)) - (((2 : Int64) * (p1.toInt64)) * (p3.toInt64))) + ((p1.toInt64) * (p1.toInt64))) + ((p4.toInt64) * (p4.toInt64))) - (((2 : Int64) * (p2.toInt64)) * (p4.toInt64))) + ((p2.toInt64) * (p2.toInt64)))), .second] [(.ref b1)])) _
    refine XS.aload X4.here hx rfl (hb hby at_85) rfl rfl ?_
    show Steps p.tables e below (T4.setTop (mkF m 87 #[.val (.int p1), .val (.int p2), .val (.int p3), .val (.int p4), .val (.ref b1), .val (.ref b3), .val (.long (p1.toInt64)), .second, .val (.long (p2.toInt64)), .second, .val (.long (p3.toInt64)), .second, .val (.long (p4.toInt64)), .second, .val (.long (((((((p3.toInt64) * (p3.toInt64)) - (((2 : Int64) * (p1.toInt64)) * (p3.toInt64))) + ((p1.toInt64) * (p1.toInt64))) + ((p4.toInt64) * (p4.toInt64))) - (((2 : Int64) * (p2.toInt64)) * (p4.toInt64))) + ((p2.toInt64) * (p2.toInt64)))), .second] [(.ref b3), (.ref b1)])) _
    refine st5.trans ?_
    show Steps p.tables e below (T5.setTop (mkF m 90 #[.val (.int p1), .val (.int p2), .val (.int p3), .val (.int p4), .val (.ref b1), .val (.ref b3), .val (.long (p1.toInt64)), .second, .val (.long (p2.toInt64)), .second, .val (.long (p3.toInt64)), .second, .val (.long (p4.toInt64)), .second, .val (.long (((((((p3.toInt64) * (p3.toInt64)) - (((2 : Int64) * (p1.toInt64)) * (p3.toInt64))) + ((p1.toInt64) * (p1.toInt64))) + ((p4.toInt64) * (p4.toInt64))) - (((2 : Int64) * (p2.toInt64)) * (p4.toInt64))) + ((p2.toInt64) * (p2.toInt64)))), .second] [(.long (v3 p1 p2 p3 p4))])) _
    refine sg90_7 _ ?_
    show Steps p.tables e below (T5.setTop (mkF m 101 #[.val (.int p1), .val (.int p2), .val (.int p3), .val (.int p4), .val (.ref b1), .val (.ref b3), .val (.long (p1.toInt64)), .second, .val (.long (p2.toInt64)), .second, .val (.long (p3.toInt64)), .second, .val (.long (p4.toInt64)), .second, .val (.long (((((((p3.toInt64) * (p3.toInt64)) - (((2 : Int64) * (p1.toInt64)) * (p3.toInt64))) + ((p1.toInt64) * (p1.toInt64))) + ((p4.toInt64) * (p4.toInt64))) - (((2 : Int64) * (p2.toInt64)) * (p4.toInt64))) + ((p2.toInt64) * (p2.toInt64)))), .second] [(.int (j0_101_s0 p1 p2 p3 p4))])) _
    exact retN X5 hx (t := .boolean) Bd.returns (by simp) (hb hby at_101) (by rw [hnar]; exact hr)
  · show Q0 Z p1 p2 p3 p4 h0 n0 _ T5.heap _
    rw [e5]
    exact ⟨rfl, N5, trivial⟩
theorem own_ring (a b c d : Int64) : ((c - a) * (c - a)) + ((d - b) * (d - b)) = (((((c * c) - (((2 : Int64) * a) * c)) + (a * a)) + (d * d)) - (((2 : Int64) * b) * d)) + (b * b) := by
  grind
theorem own_plain (p1 p2 p3 p4 : Int32) : v0 p1 p2 p3 p4 = 1 := if_pos ((lw_eq _ _).mpr (own_ring _ _ _ _))

set_option maxRecDepth 65536 in
set_option maxHeartbeats 40000000 in
theorem comes_1 {Post : Tables → Env → Array Value → State → Outcome → State → Prop} (hpost : ∀ tb e args s v u, (limb_1_1.after args s (.returned v) u = true ∧ limb_1_2.after args s (.returned v) u = true ∧ True) → FrameEnd s (.returned v) u (Jvm.fieldLocs frame_1_writes args s ++ Jvm.arrayLocs frame_1_arrays args s ++ Jvm.staticLocs frame_1_statics s) 16 128 → Post tb e args s (.returned v) u) :
    ArmFor flags0 classFile x code maxLocals ret World_1 tables_1 room_1 Calls_1 rest_1 Pre_1 Post := by
  intro l hfl _ _ p e ha hc hk s m args below hf hA hF happ hP
  obtain ⟨hcalls, hrest, hpre⟩ := hP
  obtain ⟨-, -, -, hnamed, -, -, -, hat⟩ := (Spec.applies_iff hf).mp happ
  obtain ⟨hg, hn⟩ := and_e (Cond.before_iff.mp (show (Jvm.Cond.and given_1 narrow_1).before args s = true from hpre))
  obtain ⟨gc, gr0⟩ := and_e hg
  obtain ⟨ga0, gr1⟩ := and_e gr0
  obtain ⟨ga1, gr2⟩ := and_e gr1
  obtain ⟨ga2, gr3⟩ := and_e gr2
  obtain ⟨w0, w1, w2, w3, rfl⟩ : ∃ w0 w1 w2 w3 : Value, args = #[w0, w1, w2, w3] := by
    have hs : args.size = 4 := by simpa [Cond.value, given_1] using gc
    obtain ⟨L⟩ := args
    match L, hs with
    | [w0, w1, w2, w3], _ => exact ⟨w0, w1, w2, w3, rfl⟩
  have hw := fun d (hd : d ∈ tables_1) => atoms_spec (ws := Jvm.Cond.code x code maxLocals ret :: tables_1) hat d (List.mem_cons_of_mem _ hd)
  obtain ⟨i0, ei0⟩ := is_v ga0
  obtain rfl : w0 = (.int i0) := Option.some.inj ei0
  obtain ⟨i1, ei1⟩ := is_v ga1
  obtain rfl : w1 = (.int i1) := Option.some.inj ei1
  obtain ⟨i2, ei2⟩ := is_v ga2
  obtain rfl : w2 = (.int i2) := Option.some.inj ei2
  obtain ⟨i3, ei3⟩ := is_v gr3
  obtain rfl : w3 = (.int i3) := Option.some.inj ei3
  obtain ⟨n, o, h1, h2, h3, _, L, rfl, ⟨rfl, N, -⟩, hq⟩ := rm0 l s _ hw tables_1 i0 i1 i2 i3 s.heap s.heap.size (Nat.le_refl _) p e ha hc hk s m _ below hf ((Spec.applies_iff_loose hf).mp happ).1 ⟨rfl, State.Warmed39.refl s, rfl⟩ trivial
  have hv : v0 i0 i1 i2 i3 = 1 := own_plain i0 i1 i2 i3
  rw [hv] at h3 hq
  refine ⟨n, _, h1, h2, h3, hpost _ _ _ _ _ _ ⟨Cond.after_iff.mpr rfl, Cond.after_iff.mpr (eq_i res_at (Term.int_eval (1)) rfl), trivial⟩ ⟨hq.1, hq.2.1, (hq.2.2.sift fun y hy => Or.inr (N y hy)).mono (by decide) (by decide)⟩⟩
theorem main_1_1 : Claimed_1_1 := comes_1 fun _ _ _ _ _ _ h hF => ⟨h.1, hF⟩
theorem main_1_2 : Claimed_1_2 := comes_1 fun _ _ _ _ _ _ h hF => ⟨h.2.1, hF⟩
end Jvm.Pilot.@@N@@
namespace Jvm.Pilot.@@N@@
open Jvm Jvm.ClassFile Sem Op Lib Jvm.Free Jvm.Stand Jvm.Pilot.@@N@@.Jvm.D
/-! MADE BY PROGRAM (witnessworld.py) out of the Statement's table words and the real class files: 9 classes; the members and pool entries that the words name. The judged class is class 1, her method 1. -/
namespace start1
open Jvm.ClassFile
def u (s : String) : CpInfo := .utf8 (stringToUtf16 s)
/-- a pool by its gaps: so many unusable entries, then the entry; so many at the end -/
def gap : Nat → List CpInfo → List CpInfo
  | 0, r => r
  | n + 1, r => .unusable :: gap n r
def poolList (es : List (Nat × CpInfo)) (last : Nat) : List CpInfo := es.foldr (fun e r => gap e.1 (e.2 :: r)) (gap last [])
def pool (es : List (Nat × CpInfo)) (last : Nat) : Array CpInfo := ⟨poolList es last⟩
def fileOf (pool : Array CpInfo) (this : Nat) (attrs : Array Attribute := #[]) (ms : Array MethodInfo := #[]) (fl : Nat := 33) (sup : Nat := 0) (ifs : Array Nat := #[]) (fds : Array FieldInfo := #[]) : ClassFile where
  minorVersion := 0
  majorVersion := 65
  constantPool := pool
  accessFlags := fl
  thisClass := this
  superClass := sup
  interfaces := ifs
  fields := fds
  methods := ms
  attributes := attrs
def plain (name : String) (sup : Option ClassId) : Class where
  name := name
  kind := .ordinary
  loader := none
  accessFlags := 33
  super := sup
  interfaces := #[]
  cf := none
  fields := #[]
  methods := #[]
  instanceTypes := #[]
  staticTypes := #[]
  resolved := #[]
  callSites := []
  init := .initialized
  statics := none
  mirror := none

def pool0 : Array CpInfo := pool [(5, u "<init>"), (0, u "()V"), (1, .class_ 10), (1, u "java/lang/Object")] 113

def k0c0 : Code := { maxStack := 0, maxLocals := 1, code := object_method_1_code, exceptionTable := #[], attributes := #[] }
def k0m0 : Method := { name := "<init>", desc := "()V", sig := { parameters := [], returnType := none }, accessFlags := 1, code := some k0c0 }
/-- java/lang/Object -/
def k0 : Class := { plain "java/lang/Object" none with
  accessFlags := 33
  interfaces := #[]
  cf := some (fileOf pool0 8 #[] #[{ accessFlags := 1, nameIndex := 5, descriptorIndex := 6, attributes := #[] }] 33 0 #[] #[])
  fields := #[]
  methods := #[k0m0]
  instanceTypes := #[]
  staticTypes := #[]
  resolved := Array.replicate 124 none
  statics := none }

def pool1 : Array CpInfo := pool [(2, .class_ 4), (1, u "java/lang/Object"), (0, u "<init>"), (0, u "()V"), (0, .class_ 8), (0, u "com/example/dotchord/dotchord/typing/Point"), (0, .methodref 7 10), (0, .nameAndType 5 11), (0, u "(II)V"), (0, .long 2), (1, .methodref 7 15), (0, .nameAndType 16 17), (0, u "distanceSquaredTo"), (0, u "(Lcom/example/dotchord/dotchord/typing/Point;)J"), (0, .class_ 19), (0, u "com/example/dotchord/dotchord/typing/PointDistanceSquaredToPinLaw"), (2, u "law"), (0, u "(IIII)Z")] 3

def k1m0 : Method := { name := "<init>", desc := "()V", sig := { parameters := [], returnType := none }, accessFlags := 1, code := none }
def k1c1 : Code := { maxStack := 6, maxLocals := 16, code := code, exceptionTable := #[], attributes := #[] }
def k1m1 : Method := { name := "law", desc := "(IIII)Z", sig := { parameters := [.int, .int, .int, .int], returnType := some .boolean }, accessFlags := 9, code := some k1c1 }
/-- com/example/dotchord/dotchord/typing/PointDistanceSquaredToPinLaw -/
def k1 : Class := { plain "com/example/dotchord/dotchord/typing/PointDistanceSquaredToPinLaw" (some 0) with
  accessFlags := 49
  interfaces := #[]
  cf := some (fileOf pool1 18 #[] #[{ accessFlags := 1, nameIndex := 5, descriptorIndex := 6, attributes := #[] }, { accessFlags := 9, nameIndex := 22, descriptorIndex := 23, attributes := #[] }] 49 2 #[] #[])
  fields := #[]
  methods := #[k1m0, k1m1]
  instanceTypes := #[]
  staticTypes := #[]
  resolved := Array.replicate 27 none
  statics := none }

def pool2 : Array CpInfo := pool [(1, .methodref 2 3), (0, .class_ 4), (0, .nameAndType 5 6), (0, u "java/lang/Object"), (0, u "<init>"), (0, u "()V"), (0, .fieldref 8 9), (0, .class_ 10), (0, .nameAndType 11 12), (0, u "com/example/dotchord/dotchord/typing/Point"), (0, u "x"), (0, u "I"), (0, .fieldref 8 14), (0, .nameAndType 15 12), (0, u "y"), (0, u "(II)V"), (2, u "distanceSquaredTo"), (0, u "(Lcom/example/dotchord/dotchord/typing/Point;)J")] 2

def k2c0 : Code := { maxStack := 2, maxLocals := 3, code := prog_75_method_1_code, exceptionTable := #[], attributes := #[] }
def k2m0 : Method := { name := "<init>", desc := "(II)V", sig := { parameters := [.int, .int], returnType := none }, accessFlags := 0, code := some k2c0 }
def k2c1 : Code := { maxStack := 6, maxLocals := 6, code := prog_75_method_2_code, exceptionTable := #[], attributes := #[] }
def k2m1 : Method := { name := "distanceSquaredTo", desc := "(Lcom/example/dotchord/dotchord/typing/Point;)J", sig := { parameters := [(.object "com/example/dotchord/dotchord/typing/Point")], returnType := some .long }, accessFlags := 0, code := some k2c1 }
/-- com/example/dotchord/dotchord/typing/Point -/
def k2 : Class := { plain "com/example/dotchord/dotchord/typing/Point" (some 0) with
  accessFlags := 48
  interfaces := #[]
  cf := some (fileOf pool2 8 #[] #[{ accessFlags := 0, nameIndex := 5, descriptorIndex := 16, attributes := #[] }, { accessFlags := 0, nameIndex := 19, descriptorIndex := 20, attributes := #[] }] 48 2 #[] #[{ accessFlags := 16, nameIndex := 11, descriptorIndex := 12, attributes := #[] }, { accessFlags := 16, nameIndex := 15, descriptorIndex := 12, attributes := #[] }])
  fields := #[{ name := "x", type := .int, accessFlags := 16, slot := 0, constantValue := 0 }, { name := "y", type := .int, accessFlags := 16, slot := 1, constantValue := 0 }]
  methods := #[k2m0, k2m1]
  instanceTypes := #[.int, .int]
  staticTypes := #[]
  resolved := Array.replicate 23 none
  statics := none }

def pool3 : Array CpInfo := pool [(1, u "java/lang/Cloneable"), (0, .class_ 1), (0, u "java/lang/Object"), (0, .class_ 3)] 3

/-- java/lang/Cloneable -/
def k3 : Class := { plain "java/lang/Cloneable" (some 0) with
  accessFlags := 1537
  interfaces := #[]
  cf := some (fileOf pool3 2 #[] #[] 1537 4 #[] #[])
  fields := #[]
  methods := #[]
  instanceTypes := #[]
  staticTypes := #[]
  resolved := Array.replicate 8 none
  statics := none }

def pool4 : Array CpInfo := pool [(1, u "java/io/Serializable"), (0, .class_ 1), (0, u "java/lang/Object"), (0, .class_ 3)] 3

/-- java/io/Serializable -/
def k4 : Class := { plain "java/io/Serializable" (some 0) with
  accessFlags := 1537
  interfaces := #[]
  cf := some (fileOf pool4 2 #[] #[] 1537 4 #[] #[])
  fields := #[]
  methods := #[]
  instanceTypes := #[]
  staticTypes := #[]
  resolved := Array.replicate 8 none
  statics := none }

/-- the primitive byte -/
def k5 : Class := { plain "byte" none with kind := .primitive 'B', accessFlags := 0x411 }
/-- [B -/
def k6 : Class := { plain "[B" (some 0) with kind := .array 5 .byte, interfaces := #[3, 4], accessFlags := 1041 }

/-- the primitive int -/
def k7 : Class := { plain "int" none with kind := .primitive 'I', accessFlags := 0x411 }
/-- [I -/
def k8 : Class := { plain "[I" (some 0) with kind := .array 7 .int, interfaces := #[3, 4], accessFlags := 1041 }

def heap : Heap := #[]
def classes : Array Class := #[k0, k1, k2, k3, k4, k5, k6, k7, k8]
def interned : List (Array UInt16 × Addr) := []
def slotsUsed : Nat := 0
def theMethod : MethodId := ⟨1, 1⟩
def args0 : Array Value := #[.int 1, .int 2, .int 5, .int 9]
def aboutOver (below : List Frame) : State where
  vm := { classes := classes, interned := interned.toArray }
  heap := heap
  slotsUsed := slotsUsed
  threads := #[{ frames := .invoking theMethod args0 :: below }]
def below0 : List Frame := [.native { method := ⟨0, 0⟩, args := #[] }]
def about1 : State := aboutOver below0
def p0 : Program := .bare "" "" ""
def e0 : Env := launch0.env 0 0 0
theorem w_frames : about1.frames = Frame.invoking theMethod args0 :: below0 := rfl
set_option maxRecDepth 65536 in
theorem w_args : argsFit about1.vm theMethod args0 = true := by decide +kernel
set_option maxRecDepth 65536 in
theorem w_heap : heapFits about1 = true := by decide +kernel
set_option maxRecDepth 65536 in
theorem w_runnable : about1.curStatus? = some .runnable := by decide +kernel
set_option maxRecDepth 65536 in
theorem w_alone : about1.alone = true := by decide +kernel
set_option maxRecDepth 65536 in
theorem w_named : about1.methodNamed? x = some theMethod := by decide +kernel
set_option maxRecDepth 65536 in
theorem w_hears : about1.hears theMethod below0 = true := by decide +kernel
set_option maxRecDepth 65536 in
theorem w_ripe : about1.ripe theMethod args0 below0 = true := by decide +kernel
theorem w_running : about1.status = .running := rfl
set_option maxRecDepth 65536 in
theorem w_room : about1.hasRoom e0.platform room_1 = true :=
  launch0.hasRoom_least _ room_1 (by decide +kernel) (by decide +kernel) (by decide +kernel) (by decide +kernel) (by decide +kernel) (by decide +kernel)
theorem allAtoms_all (ts : List Jvm.Cond) (a : Array Jvm.Value) (st : Jvm.State) : (allAtoms ts).before a st = ts.all (fun c => c.before a st) := by
  induction ts with
  | nil => rfl
  | cons c t ih =>
    show (Jvm.Cond.and c (allAtoms t)).before a st = _
    rw [Jvm.Cond.before_and, ih, List.all_cons]
def words1 : List Jvm.Cond := Jvm.Cond.code x code maxLocals ret :: tables_1
/-- a 'code' word, met by the world's own term for the bytes: nothing is compared byte by byte -/
theorem code_word {y : MethodName} {bytes : ByteArray} {mx : Nat} {rt : Option FieldType} {a : Array Value} {s : State} {m : MethodId} {meth : Method} {c : Code} (h1 : s.methodNamed? y = some m) (h2 : s.vm.method? m = some meth) (h3 : meth.code = some c) (h4 : c.code = bytes)
    (h5 : (c.maxLocals == mx && c.exceptionTable.isEmpty && decide (c.maxStack ≤ mostOperands) && decide (meth.sig.returnType = rt) && !meth.locks && decide (parseMethodDescriptor y.desc = some meth.sig)) = true) : (Jvm.Cond.code y bytes mx rt).before a s = true := by
  simp only [Bool.and_eq_true, beq_iff_eq, Bool.not_eq_true', decide_eq_true_eq] at h5
  obtain ⟨⟨⟨⟨⟨g1, g2⟩, g3⟩, g4⟩, g5⟩, g6⟩ := h5
  simp [Cond.before, Cond.holds, Cond.value, h1, h2, h3, h4, g1, g2, g3, g4, g5, g6]
def isCode : Jvm.Cond → Bool
  | .code _ _ _ _ => true
  | _ => false
theorem all_split {L : List Jvm.Cond} {P : Jvm.Cond → Bool} (h1 : L.all (fun c => isCode c || P c) = true) (h2 : ∀ c ∈ L.filter isCode, P c = true) : L.all P = true := by
  refine List.all_eq_true.mpr fun c hc => ?_
  have h := List.all_eq_true.mp h1 c hc
  rcases Bool.eq_false_or_eq_true (isCode c) with hi | hi
  · exact h2 c (List.mem_filter.mpr ⟨hc, hi⟩)
  · simpa [hi] using h
set_option maxRecDepth 65536 in
theorem w_c0 : (Jvm.Cond.code x code maxLocals ret).before args0 about1 = true := code_word (m := ⟨1, 1⟩) (meth := k1m1) (c := k1c1) (by decide +kernel) rfl rfl rfl (by decide +kernel)
set_option maxRecDepth 65536 in
theorem w_c1 : (Jvm.Cond.code ({ cls := "com/example/dotchord/dotchord/typing/Point", name := "<init>", desc := "(II)V" } : Jvm.MethodName) prog_75_method_1_code (3 : Nat) (Option.none : Option Jvm.ClassFile.FieldType)).before args0 about1 = true := code_word (m := ⟨2, 0⟩) (meth := k2m0) (c := k2c0) (by decide +kernel) rfl rfl rfl (by decide +kernel)
set_option maxRecDepth 65536 in
theorem w_c2 : (Jvm.Cond.code ({ cls := "java/lang/Object", name := "<init>", desc := "()V" } : Jvm.MethodName) object_method_1_code (1 : Nat) (Option.none : Option Jvm.ClassFile.FieldType)).before args0 about1 = true := code_word (m := ⟨0, 0⟩) (meth := k0m0) (c := k0c0) (by decide +kernel) rfl rfl rfl (by decide +kernel)
set_option maxRecDepth 65536 in
theorem w_c3 : (Jvm.Cond.code ({ cls := "com/example/dotchord/dotchord/typing/Point", name := "distanceSquaredTo", desc := "(Lcom/example/dotchord/dotchord/typing/Point;)J" } : Jvm.MethodName) prog_75_method_2_code (6 : Nat) (Option.some Jvm.ClassFile.FieldType.long)).before args0 about1 = true := code_word (m := ⟨2, 1⟩) (meth := k2m1) (c := k2c1) (by decide +kernel) rfl rfl rfl (by decide +kernel)
def codes1 : List Jvm.Cond := [Jvm.Cond.code x code maxLocals ret, Jvm.Cond.code ({ cls := "com/example/dotchord/dotchord/typing/Point", name := "<init>", desc := "(II)V" } : Jvm.MethodName) prog_75_method_1_code (3 : Nat) (Option.none : Option Jvm.ClassFile.FieldType), Jvm.Cond.code ({ cls := "java/lang/Object", name := "<init>", desc := "()V" } : Jvm.MethodName) object_method_1_code (1 : Nat) (Option.none : Option Jvm.ClassFile.FieldType), Jvm.Cond.code ({ cls := "com/example/dotchord/dotchord/typing/Point", name := "distanceSquaredTo", desc := "(Lcom/example/dotchord/dotchord/typing/Point;)J" } : Jvm.MethodName) prog_75_method_2_code (6 : Nat) (Option.some Jvm.ClassFile.FieldType.long)]
set_option maxRecDepth 65536 in
theorem codes_eq : words1.filter isCode = codes1 := rfl
theorem w_codes : ∀ c ∈ words1.filter isCode, c.before args0 about1 = true := by
  rw [codes_eq]
  intro c hc
  simp only [codes1, List.mem_cons, List.not_mem_nil, or_false] at hc
  rcases hc with rfl | rfl | rfl | rfl
  · exact w_c0
  · exact w_c1
  · exact w_c2
  · exact w_c3
set_option maxRecDepth 65536 in
theorem w_t1 : words1.all (fun c => isCode c || c.before args0 about1) = true := by decide +kernel
theorem w_tables : (allAtoms (Jvm.Cond.code x code maxLocals ret :: tables_1)).before args0 about1 = true := by
  rw [allAtoms_all]
  show words1.all (fun c => c.before args0 about1) = true
  refine all_split ?_ w_codes
  rw [w_t1]
set_option maxRecDepth 65536 in
theorem w_case : (Jvm.Cond.and given_1 narrow_1).before args0 about1 = true := by decide +kernel
theorem w_applies : (headSpec (Jvm.Cond.code x code maxLocals ret :: tables_1) room_1).applies x e0.platform about1 = true :=
  (Spec.applies_iff w_frames).mpr ⟨w_running, w_runnable, w_alone, w_named, w_hears, w_ripe, w_room, w_tables⟩
theorem atStart : AtStart classFile x code maxLocals ret World_1 tables_1 room_1 Calls_1 rest_1 Pre_1 launch0 p0 e0 about1 theMethod args0 below0 :=
  ⟨lists_1, trivial, launch0.admits_env _ _ _, launch0.least_env, fairChoices_fair.cas, fairChoices_fair.clock, w_frames, w_args, w_heap, w_applies, trivial, trivial, w_case⟩
end start1
theorem witness_1 : WitnessClaimed_1 := ⟨start1.p0, start1.e0, start1.about1, start1.theMethod, start1.args0, start1.below0, start1.atStart⟩
end Jvm.Pilot.@@N@@
