import JvmDerived
import JvmDerived.Pilot.@@N@@Statement
import JvmDerived.Pilot.@@N@@Code
set_option linter.unusedVariables false
set_option linter.unusedSimpArgs false
namespace Jvm.RoadKit
open Sem ClassFile Op Lib Jvm.Stand Jvm.Free Jvm.LawKit
section New
variable {p : Program} {l : Launch} {e : Env} {R : Room} {s : State} {m : MethodId} {args : Array Value} {below : List Frame} {meth : Method} {c : Code} {T : State} {locs : List Loc} {cells slots : Nat}
theorem retI (X : Stand p l e R s m args below meth c T locs cells slots) (hx : p.tables.exec = Jvm.exec) {pc : Nat} {Ls : Array Slot} {z : Int32} {rest : List Value} (hret : meth.sig.returnType = some .int) (hd : decode c.code pc = .ok (.ireturn, 1)) {fs : List Frame}
    (hl : ∀ (f : JFrame) (acts : List Action), f.method = m → f.locked = none → f.entered = [] → (doReturn e (T.setTop f) acts (some (.int z))).1 = T.setFrames fs) : Steps p.tables e below (T.setTop (mkF m pc Ls (.int z :: rest))) (T.setFrames fs) := by
  have hm' : T.vm.method? m = some meth := X.method'
  have hn : narrow .int (.int z) = .int z := rfl
  show Steps p.tables e below (T.setTop { method := m, pc := pc, locals := Ls, stack := _ :: rest, locked := none }) _
  jvm_step X.here [X.here.top, hx, hd, hm', hret, hn]
  first | (intro acts; rw [hl _ acts rfl rfl rfl]) | rw [hl _ _ rfl rfl rfl]
  exact Steps.refl _
end New
end Jvm.RoadKit
namespace Jvm.Pilot.@@N@@
open Jvm Jvm.ClassFile Sem Op Lib Jvm.Free Jvm.Stand Jvm.LawKit Jvm.RoadKit Bundle Jvm.Pilot.@@N@@.Jvm.D
theorem d1_0 : decode prog_59_method_1_code 0 = .ok (.aload_n 0, 1) := by decide +kernel
theorem d1_1 : decode prog_59_method_1_code 1 = .ok (.invokespecial 1, 3) := by decide +kernel
theorem d1_4 : decode prog_59_method_1_code 4 = .ok (.return_, 1) := by decide +kernel
theorem pn_0 : plainName "com/example/travaso/travaso/model/PicoSize" = true := by first | (simp [plainName, overriddenIn]; done) | decide +kernel
theorem ef_1 (m : MethodId) (a1 : Addr) : entryFrame m #[(.ref a1)] 1 = mkF m 0 #[.val (.ref a1)] [] := by first | (simp [entryFrame, mkF, argsToLocals, Value.category]; done) | rfl
def Q1 (Z : State) (a1 : Addr) (h0 : Heap) (n0 : Nat) (v : Option Value) (h : Heap) (L : List Loc) : Prop := v = none ∧ Fr n0 L ∧ h = h0
set_option maxRecDepth 65536 in
set_option maxHeartbeats 40000000 in
theorem rm1 (l : Launch) (Z : State) (a0 : Array Value) (hw : ∀ d ∈ tables_1, d.before a0 Z = true) (ws : List Jvm.Cond) (a1 : Addr) (h0 : Heap) (n0 : Nat) (Z0 : n0 ≤ h0.size) :
    MetFree l (⟨"com/example/travaso/travaso/model/PicoSize", "<init>", "()V"⟩ : MethodName) (head1 (Jvm.Cond.code (⟨"com/example/travaso/travaso/model/PicoSize", "<init>", "()V"⟩ : MethodName) prog_59_method_1_code 1 none :: ws) ({ frames := 1, cells := 0, slots := 0, locals := 12 } : Room)) (fun a U => a = #[(.ref a1)] ∧ Z.Warmed39 U.vm ∧ U.heap = h0) (fun _ _ _ _ _ => True) (fun _ U o U' => ∃ v L, o = .returned v ∧ Q1 Z a1 h0 n0 v U'.heap L ∧ FrameEnd U o U' L ({ frames := 1, cells := 0, slots := 0, locals := 12 } : Room).cells ({ frames := 1, cells := 0, slots := 0, locals := 12 } : Room).slots) := by
  refine MetFree.of_bodySF (plainFor_of_name pn_0) hisR ?_
  intro p e s m args below meth c s₁ Bd hml0 hP hK
  obtain ⟨rfl, hZ, hh⟩ := hP
  have hx := Bd.exec
  have hby := Bd.bytes
  have hml : c.maxLocals = 1 := hml0
  have hown : s.vm.findClass "com/example/travaso/travaso/model/PicoSize" = some m.cls := findClass_of_methodNamed Bd.named
  have hnm := (name_of_methodNamed Bd.named Bd.method).1
  have X0 : Stand p l e ({ frames := 1, cells := 0, slots := 0, locals := 12 } : Room) s m #[(.ref a1)] below meth c s₁ [] 0 0 := Stand.of_body Bd
  have e0 : s₁.heap = h0 := by rw [← hh, Bd.state]; rfl
  have N0 := Fr.nil n0
  have pre0 : ∀ t, Steps p.tables e below (s₁.setTop (mkF m 0 #[.val (.ref a1)] [])) t → Steps p.tables e below (s₁.setTop (entryFrame m #[(.ref a1)] 1)) t := fun t k => castTop (ef_1 m a1) k
  obtain ⟨T1, X1, e1, st1⟩ := initO X0 hx hZ hown (hw _ (List.mem_of_getElem? (i := 6) rfl)) (hw _ (List.mem_of_getElem? (i := 7) rfl)) (hw _ (List.mem_of_getElem? (i := 8) rfl)) e0 (g := (mkF m 1 #[.val (.ref a1)] [(.ref a1)])) rfl (by rw [hml]; rfl) rfl (hb hby d1_1) (by decide) (W := 0) (by show 2 * 0 + _ ≤ _; exact Nat.le_of_eq rfl) (by decide)
  obtain ⟨fs, hr, hrun, hended, hW, hsame⟩ := X1.leave (v := none) (fun _ => rfl)
  refine ⟨_, _, pre0 _ ?_, hrun, hended, _, _, rfl, ?_, ⟨_, rfl⟩, hW, hsame.mono (by decide) (by decide)⟩
  · show Steps p.tables e below (s₁.setTop (mkF m 0 #[.val (.ref a1)] [])) _
    refine XS.aloadN X0.here hx rfl (hb hby d1_0) rfl rfl ?_
    show Steps p.tables e below (s₁.setTop (mkF m 1 #[.val (.ref a1)] [(.ref a1)])) _
    refine st1 _ ?_
    show Steps p.tables e below (T1.setTop (mkF m 4 #[.val (.ref a1)] [])) _
    exact X1.returnOut hx Bd.returns (hb hby d1_4) hr
  · show Q1 Z a1 h0 n0 _ T1.heap _
    rw [e1]
    exact ⟨rfl, N0, rfl⟩
theorem d3_0 : decode prog_59_method_3_code 0 = .ok (.aload_n 0, 1) := by decide +kernel
theorem d3_1 : decode prog_59_method_3_code 1 = .ok (.dup, 1) := by decide +kernel
theorem d3_2 : decode prog_59_method_3_code 2 = .ok (.getfield 21, 3) := by decide +kernel
theorem d3_5 : decode prog_59_method_3_code 5 = .ok (.lload_n 1, 1) := by decide +kernel
theorem d3_6 : decode prog_59_method_3_code 6 = .ok (.ladd, 1) := by decide +kernel
theorem d3_7 : decode prog_59_method_3_code 7 = .ok (.putfield 21, 3) := by decide +kernel
theorem d3_10 : decode prog_59_method_3_code 10 = .ok (.aload_n 0, 1) := by decide +kernel
theorem d3_11 : decode prog_59_method_3_code 11 = .ok (.getfield 7, 3) := by decide +kernel
theorem d3_14 : decode prog_59_method_3_code 14 = .ok (.ldc 24, 2) := by decide +kernel
theorem d3_16 : decode prog_59_method_3_code 16 = .ok (.if_icmp .gt 18, 3) := by decide +kernel
theorem d3_19 : decode prog_59_method_3_code 19 = .ok (.aload_n 0, 1) := by decide +kernel
theorem d3_20 : decode prog_59_method_3_code 20 = .ok (.getfield 21, 3) := by decide +kernel
theorem d3_23 : decode prog_59_method_3_code 23 = .ok (.ldc2_w 25, 3) := by decide +kernel
theorem d3_26 : decode prog_59_method_3_code 26 = .ok (.lcmp, 1) := by decide +kernel
theorem d3_27 : decode prog_59_method_3_code 27 = .ok (.ifCond .gt 7, 3) := by decide +kernel
theorem d3_30 : decode prog_59_method_3_code 30 = .ok (.iconst 1, 1) := by decide +kernel
theorem d3_31 : decode prog_59_method_3_code 31 = .ok (.goto 4, 3) := by decide +kernel
theorem d3_34 : decode prog_59_method_3_code 34 = .ok (.iconst 0, 1) := by decide +kernel
theorem d3_35 : decode prog_59_method_3_code 35 = .ok (.ireturn, 1) := by decide +kernel
theorem ef_3 (m : MethodId) (a1 : Addr) (q2 : Int64) : entryFrame m #[(.ref a1), (.long q2)] 3 = mkF m 0 #[.val (.ref a1), .val (.long q2), .second] [] := by first | (simp [entryFrame, mkF, argsToLocals, Value.category]; done) | rfl
def v3 (q2 : Int64) (wc : Int64) (we : Int32) : Int32 := (if (100000 : Int32) < we then (0 : Int32) else (if (0 : Int32) < (lcmpW (wc + q2) (4000000 : Int64)) then (0 : Int32) else (1 : Int32)))
def Q3 (Z : State) (a1 : Addr) (q2 : Int64) (wc : Int64) (we : Int32) (h0 : Heap) (n0 : Nat) (v : Option Value) (h : Heap) (L : List Loc) : Prop := v = some (.int (v3 q2 wc we)) ∧ Fr n0 L ∧ Keep h0 h [a1] ∧ Exa Z h a1 "com/example/travaso/travaso/model/PicoSize" ∧ Fld Z h a1 "com/example/travaso/travaso/model/PicoSize" "characters" "J" (.long (wc + q2)) ∧ Fld Z h a1 "com/example/travaso/travaso/model/PicoSize" "elements" "I" (.int we)
set_option maxRecDepth 65536 in
set_option maxHeartbeats 40000000 in
theorem rm3 (l : Launch) (Z : State) (a0 : Array Value) (hw : ∀ d ∈ tables_1, d.before a0 Z = true) (ws : List Jvm.Cond) (a1 : Addr) (q2 : Int64) (wc : Int64) (we : Int32) (h0 : Heap) (n0 : Nat) (Z0 : n0 ≤ h0.size) (F_characters_a1 : Fld Z h0 a1 "com/example/travaso/travaso/model/PicoSize" "characters" "J" (.long wc)) (F_elements_a1 : Fld Z h0 a1 "com/example/travaso/travaso/model/PicoSize" "elements" "I" (.int we)) (E_a1 : Exa Z h0 a1 "com/example/travaso/travaso/model/PicoSize") (g_a1 : n0 ≤ a1) :
    MetFree l (⟨"com/example/travaso/travaso/model/PicoSize", "text", "(J)Z"⟩ : MethodName) (head1 (Jvm.Cond.code (⟨"com/example/travaso/travaso/model/PicoSize", "text", "(J)Z"⟩ : MethodName) prog_59_method_3_code 3 (some .boolean) :: ws) ({ frames := 0, cells := 0, slots := 0, locals := 0 } : Room)) (fun a U => a = #[(.ref a1), (.long q2)] ∧ Z.Warmed39 U.vm ∧ U.heap = h0) (fun _ _ _ _ _ => True) (fun _ U o U' => ∃ v L, o = .returned v ∧ Q3 Z a1 q2 wc we h0 n0 v U'.heap L ∧ FrameEnd U o U' L ({ frames := 0, cells := 0, slots := 0, locals := 0 } : Room).cells ({ frames := 0, cells := 0, slots := 0, locals := 0 } : Room).slots) := by
  refine MetFree.of_bodySF (plainFor_of_name pn_0) hisR ?_
  intro p e s m args below meth c s₁ Bd hml0 hP hK
  obtain ⟨rfl, hZ, hh⟩ := hP
  have hx := Bd.exec
  have hby := Bd.bytes
  have hml : c.maxLocals = 3 := hml0
  have hown : s.vm.findClass "com/example/travaso/travaso/model/PicoSize" = some m.cls := findClass_of_methodNamed Bd.named
  have hnm := (name_of_methodNamed Bd.named Bd.method).1
  have X0 : Stand p l e ({ frames := 0, cells := 0, slots := 0, locals := 0 } : Room) s m #[(.ref a1), (.long q2)] below meth c s₁ [] 0 0 := Stand.of_body Bd
  have e0 : s₁.heap = h0 := by rw [← hh, Bd.state]; rfl
  have N0 := Fr.nil n0
  have pre0 : ∀ t, Steps p.tables e below (s₁.setTop (mkF m 0 #[.val (.ref a1), .val (.long q2), .second] [])) t → Steps p.tables e below (s₁.setTop (entryFrame m #[(.ref a1), (.long q2)] 3)) t := fun t k => castTop (ef_3 m a1 q2) k
  obtain ⟨T1, X1, e1, st1⟩ := getF X0 hx hZ hown (host := "") (Or.inl (hw _ (List.mem_of_getElem? (i := 14) rfl))) Via.refl e0 F_characters_a1 (g := (mkF m 2 #[.val (.ref a1), .val (.long q2), .second] [(.ref a1), (.ref a1)])) rfl rfl (hb hby d3_2)
  obtain ⟨T2, h2, X2, e2, W2, st2⟩ := putF X1 hx hZ hown (host := "") (Or.inl (hw _ (List.mem_of_getElem? (i := 14) rfl))) Via.refl e1 F_characters_a1 E_a1 (Or.inl (hw _ (List.mem_of_getElem? (i := 15) rfl))) (hw _ (List.mem_of_getElem? (i := 1) rfl)) (ty := .long) (by decide) rfl rfl (g := (mkF m 7 #[.val (.ref a1), .val (.long q2), .second] [(.long (wc + q2)), (.ref a1)])) rfl rfl (hb hby d3_7)
  have F_characters_a1_2 := F_characters_a1.same W2
  have F_elements_a1_2 := F_elements_a1.other W2 (Or.inr (slot_ne (Or.inl (hw _ (List.mem_of_getElem? (i := 17) rfl))) (Or.inl (hw _ (List.mem_of_getElem? (i := 15) rfl))) (by decide) (t := .int) (t' := .long) (by decide) (by decide)))
  have E_a1_2 := E_a1.wr W2
  have N2 := Fr.snoc X2 N0 g_a1
  have Z2 : n0 ≤ h2.size := Nat.le_trans Z0 (Keep.of_wr W2).1
  have K2 := (Keep.refl h0 [a1]).wr W2 (Or.inl (List.mem_of_getElem? (i := 0) rfl))
  obtain ⟨T3, X3, e3, st3⟩ := getF X2 hx hZ hown (host := "") (Or.inl (hw _ (List.mem_of_getElem? (i := 16) rfl))) Via.refl e2 F_elements_a1_2 (g := (mkF m 11 #[.val (.ref a1), .val (.long q2), .second] [(.ref a1)])) rfl rfl (hb hby d3_11)
  by_cases hc16_4 : (100000 : Int32) < we
  · obtain ⟨fs, hr, hrun, hended, hW, hsame⟩ := X3.leave (v := some (.int (0 : Int32))) (fun h => by rw [Bd.returns] at h; cases h)
    refine ⟨_, _, pre0 _ ?_, hrun, hended, _, _, rfl, ?_, ⟨_, rfl⟩, hW, hsame.mono (by decide) (by decide)⟩
    · show Steps p.tables e below (s₁.setTop (mkF m 0 #[.val (.ref a1), .val (.long q2), .second] [])) _
      refine XS.aloadN X0.here hx rfl (hb hby d3_0) rfl rfl ?_
      show Steps p.tables e below (s₁.setTop (mkF m 1 #[.val (.ref a1), .val (.long q2), .second] [(.ref a1)])) _
      refine XS.dup X0.here hx rfl (hb hby d3_1) rfl rfl ?_
      show Steps p.tables e below (s₁.setTop (mkF m 2 #[.val (.ref a1), .val (.long q2), .second] [(.ref a1), (.ref a1)])) _
      refine st1 _ ?_
      show Steps p.tables e below (T1.setTop (mkF m 5 #[.val (.ref a1), .val (.long q2), .second] [(.long wc), (.ref a1)])) _
      refine XS.lloadN X1.here hx rfl (hb hby d3_5) rfl ?_
      show Steps p.tables e below (T1.setTop (mkF m 6 #[.val (.ref a1), .val (.long q2), .second] [(.long q2), (.long wc), (.ref a1)])) _
      refine XS.ladd X1.here hx rfl (hb hby d3_6) rfl ?_
      show Steps p.tables e below (T1.setTop (mkF m 7 #[.val (.ref a1), .val (.long q2), .second] [(.long (wc + q2)), (.ref a1)])) _
      refine st2 _ ?_
      show Steps p.tables e below (T2.setTop (mkF m 10 #[.val (.ref a1), .val (.long q2), .second] [])) _
      refine XS.aloadN X2.here hx rfl (hb hby d3_10) rfl rfl ?_
      show Steps p.tables e below (T2.setTop (mkF m 11 #[.val (.ref a1), .val (.long q2), .second] [(.ref a1)])) _
      refine st3 _ ?_
      show Steps p.tables e below (T3.setTop (mkF m 14 #[.val (.ref a1), .val (.long q2), .second] [(.int we)])) _
      refine X3.ldcInt hx hown (mvT hZ (hw _ (List.mem_of_getElem? (i := 18) rfl))) (g := (mkF m 14 #[.val (.ref a1), .val (.long q2), .second] [(.int we)])) rfl (hb hby d3_14) _ ?_
      show Steps p.tables e below (T3.setTop (mkF m 16 #[.val (.ref a1), .val (.long q2), .second] [(.int (100000 : Int32)), (.int we)])) _
      refine XS.icmpYes X3.here hx rfl (pc0 := 16) (pc' := 34) rfl (hb hby d3_16) rfl (tlt hc16_4).2.2.1 (by decide) (by decide) ?_
      show Steps p.tables e below (T3.setTop (mkF m 34 #[.val (.ref a1), .val (.long q2), .second] [])) _
      refine XS.iconst X3.here hx rfl (hb hby d3_34) ?_
      show Steps p.tables e below (T3.setTop (mkF m 35 #[.val (.ref a1), .val (.long q2), .second] [(.int (0 : Int32))])) _
      exact retN X3 hx (t := .boolean) Bd.returns (by simp) (hb hby d3_35) hr
    · show Q3 Z a1 q2 wc we h0 n0 _ T3.heap _
      rw [e3]
      exact ⟨congrArg (fun z => some (Value.int z)) (show v3 q2 wc we = (0 : Int32) from (if_pos hc16_4)).symm, N2, K2, E_a1_2, F_characters_a1_2, F_elements_a1_2⟩
  · obtain ⟨T5, X5, e5, st5⟩ := getF X3 hx hZ hown (host := "") (Or.inl (hw _ (List.mem_of_getElem? (i := 14) rfl))) Via.refl e3 F_characters_a1_2 (g := (mkF m 20 #[.val (.ref a1), .val (.long q2), .second] [(.ref a1)])) rfl rfl (hb hby d3_20)
    by_cases hc27_6 : (0 : Int32) < (lcmpW (wc + q2) (4000000 : Int64))
    · obtain ⟨fs, hr, hrun, hended, hW, hsame⟩ := X5.leave (v := some (.int (0 : Int32))) (fun h => by rw [Bd.returns] at h; cases h)
      refine ⟨_, _, pre0 _ ?_, hrun, hended, _, _, rfl, ?_, ⟨_, rfl⟩, hW, hsame.mono (by decide) (by decide)⟩
      · show Steps p.tables e below (s₁.setTop (mkF m 0 #[.val (.ref a1), .val (.long q2), .second] [])) _
        refine XS.aloadN X0.here hx rfl (hb hby d3_0) rfl rfl ?_
        show Steps p.tables e below (s₁.setTop (mkF m 1 #[.val (.ref a1), .val (.long q2), .second] [(.ref a1)])) _
        refine XS.dup X0.here hx rfl (hb hby d3_1) rfl rfl ?_
        show Steps p.tables e below (s₁.setTop (mkF m 2 #[.val (.ref a1), .val (.long q2), .second] [(.ref a1), (.ref a1)])) _
        refine st1 _ ?_
        show Steps p.tables e below (T1.setTop (mkF m 5 #[.val (.ref a1), .val (.long q2), .second] [(.long wc), (.ref a1)])) _
        refine XS.lloadN X1.here hx rfl (hb hby d3_5) rfl ?_
        show Steps p.tables e below (T1.setTop (mkF m 6 #[.val (.ref a1), .val (.long q2), .second] [(.long q2), (.long wc), (.ref a1)])) _
        refine XS.ladd X1.here hx rfl (hb hby d3_6) rfl ?_
        show Steps p.tables e below (T1.setTop (mkF m 7 #[.val (.ref a1), .val (.long q2), .second] [(.long (wc + q2)), (.ref a1)])) _
        refine st2 _ ?_
        show Steps p.tables e below (T2.setTop (mkF m 10 #[.val (.ref a1), .val (.long q2), .second] [])) _
        refine XS.aloadN X2.here hx rfl (hb hby d3_10) rfl rfl ?_
        show Steps p.tables e below (T2.setTop (mkF m 11 #[.val (.ref a1), .val (.long q2), .second] [(.ref a1)])) _
        refine st3 _ ?_
        show Steps p.tables e below (T3.setTop (mkF m 14 #[.val (.ref a1), .val (.long q2), .second] [(.int we)])) _
        refine X3.ldcInt hx hown (mvT hZ (hw _ (List.mem_of_getElem? (i := 18) rfl))) (g := (mkF m 14 #[.val (.ref a1), .val (.long q2), .second] [(.int we)])) rfl (hb hby d3_14) _ ?_
        show Steps p.tables e below (T3.setTop (mkF m 16 #[.val (.ref a1), .val (.long q2), .second] [(.int (100000 : Int32)), (.int we)])) _
        refine XS.icmpNo X3.here hx rfl (hb hby d3_16) rfl (flt hc16_4).2.2.1 ?_
        show Steps p.tables e below (T3.setTop (mkF m 19 #[.val (.ref a1), .val (.long q2), .second] [])) _
        refine XS.aloadN X3.here hx rfl (hb hby d3_19) rfl rfl ?_
        show Steps p.tables e below (T3.setTop (mkF m 20 #[.val (.ref a1), .val (.long q2), .second] [(.ref a1)])) _
        refine st5 _ ?_
        show Steps p.tables e below (T5.setTop (mkF m 23 #[.val (.ref a1), .val (.long q2), .second] [(.long (wc + q2))])) _
        refine X5.ldc2Long hx hown (mvT hZ (hw _ (List.mem_of_getElem? (i := 19) rfl))) (g := (mkF m 23 #[.val (.ref a1), .val (.long q2), .second] [(.long (wc + q2))])) rfl (hb hby d3_23) _ ?_
        show Steps p.tables e below (T5.setTop (mkF m 26 #[.val (.ref a1), .val (.long q2), .second] [(.long (4000000 : Int64)), (.long (wc + q2))])) _
        refine XS.lcmp X5.here hx rfl (hb hby d3_26) rfl ?_
        show Steps p.tables e below (T5.setTop (mkF m 27 #[.val (.ref a1), .val (.long q2), .second] [(.int (lcmpW (wc + q2) (4000000 : Int64)))])) _
        refine XS.ifYes X5.here hx rfl (pc0 := 27) (pc' := 34) rfl (hb hby d3_27) rfl ((if0 _ _).trans (tlt hc27_6).2.2.1) (by decide) (by decide) ?_
        show Steps p.tables e below (T5.setTop (mkF m 34 #[.val (.ref a1), .val (.long q2), .second] [])) _
        refine XS.iconst X5.here hx rfl (hb hby d3_34) ?_
        show Steps p.tables e below (T5.setTop (mkF m 35 #[.val (.ref a1), .val (.long q2), .second] [(.int (0 : Int32))])) _
        exact retN X5 hx (t := .boolean) Bd.returns (by simp) (hb hby d3_35) hr
      · show Q3 Z a1 q2 wc we h0 n0 _ T5.heap _
        rw [e5]
        exact ⟨congrArg (fun z => some (Value.int z)) (show v3 q2 wc we = (0 : Int32) from ((if_neg hc16_4).trans (if_pos hc27_6))).symm, N2, K2, E_a1_2, F_characters_a1_2, F_elements_a1_2⟩
    · obtain ⟨fs, hr, hrun, hended, hW, hsame⟩ := X5.leave (v := some (.int (1 : Int32))) (fun h => by rw [Bd.returns] at h; cases h)
      refine ⟨_, _, pre0 _ ?_, hrun, hended, _, _, rfl, ?_, ⟨_, rfl⟩, hW, hsame.mono (by decide) (by decide)⟩
      · show Steps p.tables e below (s₁.setTop (mkF m 0 #[.val (.ref a1), .val (.long q2), .second] [])) _
        refine XS.aloadN X0.here hx rfl (hb hby d3_0) rfl rfl ?_
        show Steps p.tables e below (s₁.setTop (mkF m 1 #[.val (.ref a1), .val (.long q2), .second] [(.ref a1)])) _
        refine XS.dup X0.here hx rfl (hb hby d3_1) rfl rfl ?_
        show Steps p.tables e below (s₁.setTop (mkF m 2 #[.val (.ref a1), .val (.long q2), .second] [(.ref a1), (.ref a1)])) _
        refine st1 _ ?_
        show Steps p.tables e below (T1.setTop (mkF m 5 #[.val (.ref a1), .val (.long q2), .second] [(.long wc), (.ref a1)])) _
        refine XS.lloadN X1.here hx rfl (hb hby d3_5) rfl ?_
        show Steps p.tables e below (T1.setTop (mkF m 6 #[.val (.ref a1), .val (.long q2), .second] [(.long q2), (.long wc), (.ref a1)])) _
        refine XS.ladd X1.here hx rfl (hb hby d3_6) rfl ?_
        show Steps p.tables e below (T1.setTop (mkF m 7 #[.val (.ref a1), .val (.long q2), .second] [(.long (wc + q2)), (.ref a1)])) _
        refine st2 _ ?_
        show Steps p.tables e below (T2.setTop (mkF m 10 #[.val (.ref a1), .val (.long q2), .second] [])) _
        refine XS.aloadN X2.here hx rfl (hb hby d3_10) rfl rfl ?_
        show Steps p.tables e below (T2.setTop (mkF m 11 #[.val (.ref a1), .val (.long q2), .second] [(.ref a1)])) _
        refine st3 _ ?_
        show Steps p.tables e below (T3.setTop (mkF m 14 #[.val (.ref a1), .val (.long q2), .second] [(.int we)])) _
        refine X3.ldcInt hx hown (mvT hZ (hw _ (List.mem_of_getElem? (i := 18) rfl))) (g := (mkF m 14 #[.val (.ref a1), .val (.long q2), .second] [(.int we)])) rfl (hb hby d3_14) _ ?_
        show Steps p.tables e below (T3.setTop (mkF m 16 #[.val (.ref a1), .val (.long q2), .second] [(.int (100000 : Int32)), (.int we)])) _
        refine XS.icmpNo X3.here hx rfl (hb hby d3_16) rfl (flt hc16_4).2.2.1 ?_
        show Steps p.tables e below (T3.setTop (mkF m 19 #[.val (.ref a1), .val (.long q2), .second] [])) _
        refine XS.aloadN X3.here hx rfl (hb hby d3_19) rfl rfl ?_
        show Steps p.tables e below (T3.setTop (mkF m 20 #[.val (.ref a1), .val (.long q2), .second] [(.ref a1)])) _
        refine st5 _ ?_
        show Steps p.tables e below (T5.setTop (mkF m 23 #[.val (.ref a1), .val (.long q2), .second] [(.long (wc + q2))])) _
        refine X5.ldc2Long hx hown (mvT hZ (hw _ (List.mem_of_getElem? (i := 19) rfl))) (g := (mkF m 23 #[.val (.ref a1), .val (.long q2), .second] [(.long (wc + q2))])) rfl (hb hby d3_23) _ ?_
        show Steps p.tables e below (T5.setTop (mkF m 26 #[.val (.ref a1), .val (.long q2), .second] [(.long (4000000 : Int64)), (.long (wc + q2))])) _
        refine XS.lcmp X5.here hx rfl (hb hby d3_26) rfl ?_
        show Steps p.tables e below (T5.setTop (mkF m 27 #[.val (.ref a1), .val (.long q2), .second] [(.int (lcmpW (wc + q2) (4000000 : Int64)))])) _
        refine XS.ifNo X5.here hx rfl (hb hby d3_27) rfl ((if0 _ _).trans (flt hc27_6).2.2.1) ?_
        show Steps p.tables e below (T5.setTop (mkF m 30 #[.val (.ref a1), .val (.long q2), .second] [])) _
        refine XS.iconst X5.here hx rfl (hb hby d3_30) ?_
        show Steps p.tables e below (T5.setTop (mkF m 31 #[.val (.ref a1), .val (.long q2), .second] [(.int (1 : Int32))])) _
        refine XS.goto X5.here hx rfl (pc0 := 31) (pc' := 35) rfl (hb hby d3_31) (by decide) (by decide) ?_
        show Steps p.tables e below (T5.setTop (mkF m 35 #[.val (.ref a1), .val (.long q2), .second] [(.int (1 : Int32))])) _
        exact retN X5 hx (t := .boolean) Bd.returns (by simp) (hb hby d3_35) hr
      · show Q3 Z a1 q2 wc we h0 n0 _ T5.heap _
        rw [e5]
        exact ⟨congrArg (fun z => some (Value.int z)) (show v3 q2 wc we = (1 : Int32) from ((if_neg hc16_4).trans (if_neg hc27_6))).symm, N2, K2, E_a1_2, F_characters_a1_2, F_elements_a1_2⟩
theorem d4_0 : decode prog_59_method_4_code 0 = .ok (.aload_n 0, 1) := by decide +kernel
theorem d4_1 : decode prog_59_method_4_code 1 = .ok (.getfield 21, 3) := by decide +kernel
theorem d4_4 : decode prog_59_method_4_code 4 = .ok (.lload_n 1, 1) := by decide +kernel
theorem d4_5 : decode prog_59_method_4_code 5 = .ok (.ladd, 1) := by decide +kernel
theorem d4_6 : decode prog_59_method_4_code 6 = .ok (.ldc2_w 25, 3) := by decide +kernel
theorem d4_9 : decode prog_59_method_4_code 9 = .ok (.lcmp, 1) := by decide +kernel
theorem d4_10 : decode prog_59_method_4_code 10 = .ok (.ifCond .gt 7, 3) := by decide +kernel
theorem d4_13 : decode prog_59_method_4_code 13 = .ok (.iconst 1, 1) := by decide +kernel
theorem d4_14 : decode prog_59_method_4_code 14 = .ok (.goto 4, 3) := by decide +kernel
theorem d4_17 : decode prog_59_method_4_code 17 = .ok (.iconst 0, 1) := by decide +kernel
theorem d4_18 : decode prog_59_method_4_code 18 = .ok (.ireturn, 1) := by decide +kernel
theorem ef_4 (m : MethodId) (a1 : Addr) (q2 : Int64) : entryFrame m #[(.ref a1), (.long q2)] 3 = mkF m 0 #[.val (.ref a1), .val (.long q2), .second] [] := by first | (simp [entryFrame, mkF, argsToLocals, Value.category]; done) | rfl
def j4_18_s0 (q2 : Int64) (wc : Int64) : Int32 := (if (0 : Int32) < (lcmpW (wc + q2) (4000000 : Int64)) then (0 : Int32) else (1 : Int32))
def v4 (q2 : Int64) (wc : Int64) : Int32 := (j4_18_s0 q2 wc)
def Q4 (Z : State) (a1 : Addr) (q2 : Int64) (wc : Int64) (h0 : Heap) (n0 : Nat) (v : Option Value) (h : Heap) (L : List Loc) : Prop := v = some (.int (v4 q2 wc)) ∧ Fr n0 L ∧ h = h0
set_option maxRecDepth 65536 in
set_option maxHeartbeats 40000000 in
theorem rm4 (l : Launch) (Z : State) (a0 : Array Value) (hw : ∀ d ∈ tables_1, d.before a0 Z = true) (ws : List Jvm.Cond) (a1 : Addr) (q2 : Int64) (wc : Int64) (h0 : Heap) (n0 : Nat) (Z0 : n0 ≤ h0.size) (F_characters_a1 : Fld Z h0 a1 "com/example/travaso/travaso/model/PicoSize" "characters" "J" (.long wc)) :
    MetFree l (⟨"com/example/travaso/travaso/model/PicoSize", "fits", "(J)Z"⟩ : MethodName) (head1 (Jvm.Cond.code (⟨"com/example/travaso/travaso/model/PicoSize", "fits", "(J)Z"⟩ : MethodName) prog_59_method_4_code 3 (some .boolean) :: ws) ({ frames := 0, cells := 0, slots := 0, locals := 0 } : Room)) (fun a U => a = #[(.ref a1), (.long q2)] ∧ Z.Warmed39 U.vm ∧ U.heap = h0) (fun _ _ _ _ _ => True) (fun _ U o U' => ∃ v L, o = .returned v ∧ Q4 Z a1 q2 wc h0 n0 v U'.heap L ∧ FrameEnd U o U' L ({ frames := 0, cells := 0, slots := 0, locals := 0 } : Room).cells ({ frames := 0, cells := 0, slots := 0, locals := 0 } : Room).slots) := by
  refine MetFree.of_bodySF (plainFor_of_name pn_0) hisR ?_
  intro p e s m args below meth c s₁ Bd hml0 hP hK
  obtain ⟨rfl, hZ, hh⟩ := hP
  have hx := Bd.exec
  have hby := Bd.bytes
  have hml : c.maxLocals = 3 := hml0
  have hown : s.vm.findClass "com/example/travaso/travaso/model/PicoSize" = some m.cls := findClass_of_methodNamed Bd.named
  have hnm := (name_of_methodNamed Bd.named Bd.method).1
  have X0 : Stand p l e ({ frames := 0, cells := 0, slots := 0, locals := 0 } : Room) s m #[(.ref a1), (.long q2)] below meth c s₁ [] 0 0 := Stand.of_body Bd
  have e0 : s₁.heap = h0 := by rw [← hh, Bd.state]; rfl
  have N0 := Fr.nil n0
  have pre0 : ∀ t, Steps p.tables e below (s₁.setTop (mkF m 0 #[.val (.ref a1), .val (.long q2), .second] [])) t → Steps p.tables e below (s₁.setTop (entryFrame m #[(.ref a1), (.long q2)] 3)) t := fun t k => castTop (ef_4 m a1 q2) k
  obtain ⟨T1, X1, e1, st1⟩ := getF X0 hx hZ hown (host := "") (Or.inl (hw _ (List.mem_of_getElem? (i := 14) rfl))) Via.refl e0 F_characters_a1 (g := (mkF m 1 #[.val (.ref a1), .val (.long q2), .second] [(.ref a1)])) rfl rfl (hb hby d4_1)
  have sg6_3 : ∀ t, Steps p.tables e below (T1.setTop (mkF m 18 #[.val (.ref a1), .val (.long q2), .second] [(.int (j4_18_s0 q2 wc))])) t → Steps p.tables e below (T1.setTop (mkF m 6 #[.val (.ref a1), .val (.long q2), .second] [(.long (wc + q2))])) t := by
    intro t kt
    show Steps p.tables e below (T1.setTop (mkF m 6 #[.val (.ref a1), .val (.long q2), .second] [(.long (wc + q2))])) _
    refine X1.ldc2Long hx hown (mvT hZ (hw _ (List.mem_of_getElem? (i := 19) rfl))) (g := (mkF m 6 #[.val (.ref a1), .val (.long q2), .second] [(.long (wc + q2))])) rfl (hb hby d4_6) _ ?_
    show Steps p.tables e below (T1.setTop (mkF m 9 #[.val (.ref a1), .val (.long q2), .second] [(.long (4000000 : Int64)), (.long (wc + q2))])) _
    refine XS.lcmp X1.here hx rfl (hb hby d4_9) rfl ?_
    show Steps p.tables e below (T1.setTop (mkF m 10 #[.val (.ref a1), .val (.long q2), .second] [(.int (lcmpW (wc + q2) (4000000 : Int64)))])) _
    by_cases hc10_2 : (0 : Int32) < (lcmpW (wc + q2) (4000000 : Int64))
    · refine XS.ifYes X1.here hx rfl (pc0 := 10) (pc' := 17) rfl (hb hby d4_10) rfl ((if0 _ _).trans (tlt hc10_2).2.2.1) (by decide) (by decide) ?_
      show Steps p.tables e below (T1.setTop (mkF m 17 #[.val (.ref a1), .val (.long q2), .second] [])) _
      refine XS.iconst X1.here hx rfl (hb hby d4_17) ?_
      rw [show (j4_18_s0 q2 wc) = (0 : Int32) from (if_pos hc10_2)] at kt
      exact kt
    · refine XS.ifNo X1.here hx rfl (hb hby d4_10) rfl ((if0 _ _).trans (flt hc10_2).2.2.1) ?_
      show Steps p.tables e below (T1.setTop (mkF m 13 #[.val (.ref a1), .val (.long q2), .second] [])) _
      refine XS.iconst X1.here hx rfl (hb hby d4_13) ?_
      show Steps p.tables e below (T1.setTop (mkF m 14 #[.val (.ref a1), .val (.long q2), .second] [(.int (1 : Int32))])) _
      refine XS.goto X1.here hx rfl (pc0 := 14) (pc' := 18) rfl (hb hby d4_14) (by decide) (by decide) ?_
      rw [show (j4_18_s0 q2 wc) = (1 : Int32) from (if_neg hc10_2)] at kt
      exact kt
  have hnar : nar .boolean (j4_18_s0 q2 wc) = (j4_18_s0 q2 wc) := by
    unfold j4_18_s0
    repeat' split
    all_goals rfl
  obtain ⟨fs, hr, hrun, hended, hW, hsame⟩ := X1.leave (v := some (.int (j4_18_s0 q2 wc))) (fun h => by rw [Bd.returns] at h; cases h)
  refine ⟨_, _, pre0 _ ?_, hrun, hended, _, _, rfl, ?_, ⟨_, rfl⟩, hW, hsame.mono (by decide) (by decide)⟩
  · show Steps p.tables e below (s₁.setTop (mkF m 0 #[.val (.ref a1), .val (.long q2), .second] [])) _
    refine XS.aloadN X0.here hx rfl (hb hby d4_0) rfl rfl ?_
    show Steps p.tables e below (s₁.setTop (mkF m 1 #[.val (.ref a1), .val (.long q2), .second] [(.ref a1)])) _
    refine st1 _ ?_
    show Steps p.tables e below (T1.setTop (mkF m 4 #[.val (.ref a1), .val (.long q2), .second] [(.long wc)])) _
    refine XS.lloadN X1.here hx rfl (hb hby d4_4) rfl ?_
    show Steps p.tables e below (T1.setTop (mkF m 5 #[.val (.ref a1), .val (.long q2), .second] [(.long q2), (.long wc)])) _
    refine XS.ladd X1.here hx rfl (hb hby d4_5) rfl ?_
    show Steps p.tables e below (T1.setTop (mkF m 6 #[.val (.ref a1), .val (.long q2), .second] [(.long (wc + q2))])) _
    refine sg6_3 _ ?_
    show Steps p.tables e below (T1.setTop (mkF m 18 #[.val (.ref a1), .val (.long q2), .second] [(.int (j4_18_s0 q2 wc))])) _
    exact retN X1 hx (t := .boolean) Bd.returns (by simp) (hb hby d4_18) (by rw [hnar]; exact hr)
  · show Q4 Z a1 q2 wc h0 n0 _ T1.heap _
    rw [e1]
    exact ⟨rfl, N0, rfl⟩
theorem pd_0 : parseMethodDescriptor "()V" = some ⟨[], none⟩ := by decide +kernel
theorem pd_1 : parseMethodDescriptor "(J)Z" = some ⟨[.long], some .boolean⟩ := by decide +kernel
theorem pn_1 : plainName "com/example/travaso/travaso/model/PicoSizeTextPinLaw" = true := by first | (simp [plainName, overriddenIn]; done) | decide +kernel
theorem ef_0 (m : MethodId) (q1 : Int64) (q2 : Int64) (q3 : Int64) : entryFrame m #[(.long q1), (.long q2), (.long q3)] maxLocals = mkF m 0 #[.val (.long q1), .second, .val (.long q2), .second, .val (.long q3), .second, .unset, .unset, .unset, .unset, .unset, .unset, .unset, .unset] [] := by first | (simp [entryFrame, mkF, argsToLocals, Value.category, maxLocals]; done) | rfl
def j0_58_s0 (q1 : Int64) (q2 : Int64) (q3 : Int64) : Int32 := (if (0 : Int32) < (lcmpW q1 (4000000 : Int64)) then (0 : Int32) else (1 : Int32))
def j0_76_s0 (q1 : Int64) (q2 : Int64) (q3 : Int64) : Int32 := (if (0 : Int32) < (lcmpW (q1 + q2) (4000000 : Int64)) then (0 : Int32) else (1 : Int32))
def j0_97_s0 (q1 : Int64) (q2 : Int64) (q3 : Int64) : Int32 := (if (0 : Int32) < (lcmpW ((q1 + q2) + q3) (4000000 : Int64)) then (0 : Int32) else (1 : Int32))
def v0 (q1 : Int64) (q2 : Int64) (q3 : Int64) : Int32 := (if (v3 q1 (0 : Int64) (0 : Int32)) = (j0_58_s0 q1 q2 q3) then (if (v3 q2 ((0 : Int64) + q1) (0 : Int32)) = (j0_76_s0 q1 q2 q3) then (if (v4 q3 (((0 : Int64) + q1) + q2)) = (j0_97_s0 q1 q2 q3) then (1 : Int32) else (0 : Int32)) else (0 : Int32)) else (0 : Int32))
def Q0 (Z : State) (q1 : Int64) (q2 : Int64) (q3 : Int64) (h0 : Heap) (n0 : Nat) (v : Option Value) (h : Heap) (L : List Loc) : Prop := v = some (.int (v0 q1 q2 q3)) ∧ Fr n0 L ∧ True
set_option maxRecDepth 65536 in
set_option maxHeartbeats 40000000 in
theorem rm0 (l : Launch) (Z : State) (a0 : Array Value) (hw : ∀ d ∈ tables_1, d.before a0 Z = true) (ws : List Jvm.Cond) (q1 : Int64) (q2 : Int64) (q3 : Int64) (h0 : Heap) (n0 : Nat) (Z0 : n0 ≤ h0.size) :
    MetFree l x (head1 (Jvm.Cond.code x code maxLocals ret :: ws) room_1) (fun a U => a = #[(.long q1), (.long q2), (.long q3)] ∧ Z.Warmed39 U.vm ∧ U.heap = h0) (fun _ _ _ _ _ => True) (fun _ U o U' => ∃ v L, o = .returned v ∧ Q0 Z q1 q2 q3 h0 n0 v U'.heap L ∧ FrameEnd U o U' L room_1.cells room_1.slots) := by
  refine MetFree.of_bodySF (plainFor_of_name pn_1) hisR ?_
  intro p e s m args below meth c s₁ Bd hml0 hP hK
  obtain ⟨rfl, hZ, hh⟩ := hP
  have hx := Bd.exec
  have hby := Bd.bytes
  have hml : c.maxLocals = 14 := hml0
  have hown : s.vm.findClass "com/example/travaso/travaso/model/PicoSizeTextPinLaw" = some m.cls := findClass_of_methodNamed Bd.named
  have hnm := (name_of_methodNamed Bd.named Bd.method).1
  have X0 : Stand p l e room_1 s m #[(.long q1), (.long q2), (.long q3)] below meth c s₁ [] 0 0 := Stand.of_body Bd
  have e0 : s₁.heap = h0 := by rw [← hh, Bd.state]; rfl
  have N0 := Fr.nil n0
  have pre0 : ∀ t, Steps p.tables e below (s₁.setTop (mkF m 0 #[.val (.long q1), .second, .val (.long q2), .second, .val (.long q3), .second, .unset, .unset, .unset, .unset, .unset, .unset, .unset, .unset] [])) t → Steps p.tables e below (s₁.setTop (entryFrame m #[(.long q1), (.long q2), (.long q3)] maxLocals)) t := fun t k => castTop (ef_0 m q1 q2 q3) k
  obtain ⟨T1, h1, X1, e1, E1, A1, D1, -, st1⟩ := newO X0 hx hZ hown (hw _ (List.mem_of_getElem? (i := 0) rfl)) (hw _ (List.mem_of_getElem? (i := 1) rfl)) (hw _ (List.mem_of_getElem? (i := 2) rfl)) e0 (g := (mkF m 0 #[.val (.long q1), .second, .val (.long q2), .second, .val (.long q3), .second, .unset, .unset, .unset, .unset, .unset, .unset, .unset, .unset] [])) rfl (hb hby at_0) (by decide) (by decide)
  obtain ⟨b1, g1⟩ : ∃ z, z = h0.size := ⟨_, rfl⟩
  rw [← g1] at A1 D1 st1
  have g_b1 : n0 ≤ b1 := Nat.le_trans Z0 (Nat.le_of_eq g1.symm)
  have Z1 : n0 ≤ h1.size := Nat.le_trans Z0 E1.1
  have F_characters_b1 : Fld Z h1 b1 "com/example/travaso/travaso/model/PicoSize" "characters" "J" (.long (0 : Int64)) := D1 (Or.inl (hw _ (List.mem_of_getElem? (i := 15) rfl))) (ty := .long) (by decide)
  have F_elements_b1 : Fld Z h1 b1 "com/example/travaso/travaso/model/PicoSize" "elements" "I" (.int (0 : Int32)) := D1 (Or.inl (hw _ (List.mem_of_getElem? (i := 17) rfl))) (ty := .int) (by decide)
  obtain ⟨_, _, ⟨T2, L2, k2, n2⟩, -, X2, ⟨Lc2, hQ2, l2, y2, z2⟩, st2⟩ := X1.specialBack hx (y := (⟨"com/example/travaso/travaso/model/PicoSize", "<init>", "()V"⟩ : MethodName)) rfl hown (mvT hZ (hw _ (List.mem_of_getElem? (i := 3) rfl))) (mvT hZ (hw _ (List.mem_of_getElem? (i := 4) rfl))) (mvT hZ (hw _ (List.mem_of_getElem? (i := 5) rfl))) (by decide) (backOf (W := 1) (rm1 l Z a0 hw [] b1 h1 n0 Z1 ) hZ (hw _ (List.mem_of_getElem? (i := 5) rfl)) (hw _ (List.mem_of_getElem? (i := 2) rfl)) (by decide) (by decide)) (g := (mkF m 4 #[.val (.long q1), .second, .val (.long q2), .second, .val (.long q3), .second, .unset, .unset, .unset, .unset, .unset, .unset, .unset, .unset] [(.ref b1), (.ref b1)])) rfl (by rw [hml]; rfl) (Steps.refl _) (a := b1) (argsL := []) (rest := [(.ref b1)]) (lenOf pd_0 rfl) rfl (by show 2 * 0 + _ ≤ _; exact Nat.le_of_eq rfl) (hb hby at_4) (fun _ _ => ⟨rfl, e1, (by decide : 1 + 0 ≤ _), (by decide : 2 + 0 ≤ _)⟩)
  dsimp only [Pt.U, Pt.locs, Pt.cells, Pt.slots] at X2 l2 y2 z2 st2 hQ2
  subst l2 y2 z2
  obtain ⟨rfl, N2q, e2⟩ := hQ2
  have N2 := Fr.app N0 N2q
  obtain ⟨cq3, kq3, q3a, q3b, q3c⟩ := isOf hZ e2 A1
  obtain ⟨_, _, ⟨T3, L3, k3, n3⟩, -, X3, ⟨Lc3, hQ3, l3, y3, z3⟩, st3⟩ := X2.virtualBack hx (y := (⟨"com/example/travaso/travaso/model/PicoSize", "text", "(J)Z"⟩ : MethodName)) (z := (⟨"com/example/travaso/travaso/model/PicoSize", "text", "(J)Z"⟩ : MethodName)) hown (mvT hZ (hw _ (List.mem_of_getElem? (i := 9) rfl))) (mvT hZ (hw _ (List.mem_of_getElem? (i := 10) rfl))) (notFace_of_selects (args := #[]) (mvT hZ (hw _ (List.mem_of_getElem? (i := 12) rfl)))) (mvT hZ (hw _ (List.mem_of_getElem? (i := 12) rfl))) (mvT hZ (hw _ (List.mem_of_getElem? (i := 11) rfl))) (by decide) (backOf (W := 0) (rm3 l Z a0 hw [] b1 q1 (0 : Int64) (0 : Int32) h1 n0 Z1 F_characters_b1 F_elements_b1 A1 g_b1) hZ (hw _ (List.mem_of_getElem? (i := 13) rfl)) (hw _ (List.mem_of_getElem? (i := 2) rfl)) (by decide) (by decide)) q3a q3c (g := (mkF m 12 #[.val (.long q1), .second, .val (.long q2), .second, .val (.long q3), .second, .val (.ref b1), .unset, .unset, .unset, .unset, .unset, .unset, .unset] [(.long q1), (.ref b1)])) rfl (by rw [hml]; rfl) (Steps.refl _) (argsL := [(.long q1)]) (rest := []) (lenOf pd_1 rfl) rfl (by show 2 * 0 + _ ≤ _; exact Nat.le_of_eq rfl) (hb hby at_12) (fun _ _ => ⟨rfl, e2, (by decide : 1 + 0 ≤ _), (by decide : 2 + 0 ≤ _)⟩)
  dsimp only [Pt.U, Pt.locs, Pt.cells, Pt.slots] at X3 l3 y3 z3 st3 hQ3
  subst l3 y3 z3
  obtain ⟨rfl, N3q, K3, u3_0, u3_1, u3_2⟩ := hQ3
  have Z3 : n0 ≤ T3.heap.size := Nat.le_trans Z1 K3.1
  have N3 := Fr.app N2 N3q
  obtain ⟨cq4, kq4, q4a, q4b, q4c⟩ := isOf hZ rfl u3_0
  obtain ⟨_, _, ⟨T4, L4, k4, n4⟩, -, X4, ⟨Lc4, hQ4, l4, y4, z4⟩, st4⟩ := X3.virtualBack hx (y := (⟨"com/example/travaso/travaso/model/PicoSize", "text", "(J)Z"⟩ : MethodName)) (z := (⟨"com/example/travaso/travaso/model/PicoSize", "text", "(J)Z"⟩ : MethodName)) hown (mvT hZ (hw _ (List.mem_of_getElem? (i := 9) rfl))) (mvT hZ (hw _ (List.mem_of_getElem? (i := 10) rfl))) (notFace_of_selects (args := #[]) (mvT hZ (hw _ (List.mem_of_getElem? (i := 12) rfl)))) (mvT hZ (hw _ (List.mem_of_getElem? (i := 12) rfl))) (mvT hZ (hw _ (List.mem_of_getElem? (i := 11) rfl))) (by decide) (backOf (W := 0) (rm3 l Z a0 hw [] b1 q2 ((0 : Int64) + q1) (0 : Int32) T3.heap n0 Z3 u3_1 u3_2 u3_0 g_b1) hZ (hw _ (List.mem_of_getElem? (i := 13) rfl)) (hw _ (List.mem_of_getElem? (i := 2) rfl)) (by decide) (by decide)) q4a q4c (g := (mkF m 20 #[.val (.long q1), .second, .val (.long q2), .second, .val (.long q3), .second, .val (.ref b1), .val (.int (v3 q1 (0 : Int64) (0 : Int32))), .unset, .unset, .unset, .unset, .unset, .unset] [(.long q2), (.ref b1)])) rfl (by rw [hml]; rfl) (Steps.refl _) (argsL := [(.long q2)]) (rest := []) (lenOf pd_1 rfl) rfl (by show 2 * 0 + _ ≤ _; exact Nat.le_of_eq rfl) (hb hby at_20) (fun _ _ => ⟨rfl, rfl, (by decide : 1 + 0 ≤ _), (by decide : 2 + 0 ≤ _)⟩)
  dsimp only [Pt.U, Pt.locs, Pt.cells, Pt.slots] at X4 l4 y4 z4 st4 hQ4
  subst l4 y4 z4
  obtain ⟨rfl, N4q, K4, u4_0, u4_1, u4_2⟩ := hQ4
  have Z4 : n0 ≤ T4.heap.size := Nat.le_trans Z3 K4.1
  have N4 := Fr.app N3 N4q
  obtain ⟨cq5, kq5, q5a, q5b, q5c⟩ := isOf hZ rfl u4_0
  obtain ⟨_, _, ⟨T5, L5, k5, n5⟩, -, X5, ⟨Lc5, hQ5, l5, y5, z5⟩, st5⟩ := X4.virtualBack hx (y := (⟨"com/example/travaso/travaso/model/PicoSize", "fits", "(J)Z"⟩ : MethodName)) (z := (⟨"com/example/travaso/travaso/model/PicoSize", "fits", "(J)Z"⟩ : MethodName)) hown (mvT hZ (hw _ (List.mem_of_getElem? (i := 20) rfl))) (mvT hZ (hw _ (List.mem_of_getElem? (i := 21) rfl))) (notFace_of_selects (args := #[]) (mvT hZ (hw _ (List.mem_of_getElem? (i := 23) rfl)))) (mvT hZ (hw _ (List.mem_of_getElem? (i := 23) rfl))) (mvT hZ (hw _ (List.mem_of_getElem? (i := 22) rfl))) (by decide) (backOf (W := 0) (rm4 l Z a0 hw [] b1 q3 (((0 : Int64) + q1) + q2) T4.heap n0 Z4 u4_1) hZ (hw _ (List.mem_of_getElem? (i := 24) rfl)) (hw _ (List.mem_of_getElem? (i := 2) rfl)) (by decide) (by decide)) q5a q5c (g := (mkF m 29 #[.val (.long q1), .second, .val (.long q2), .second, .val (.long q3), .second, .val (.ref b1), .val (.int (v3 q1 (0 : Int64) (0 : Int32))), .val (.int (v3 q2 ((0 : Int64) + q1) (0 : Int32))), .unset, .unset, .unset, .unset, .unset] [(.long q3), (.ref b1)])) rfl (by rw [hml]; rfl) (Steps.refl _) (argsL := [(.long q3)]) (rest := []) (lenOf pd_1 rfl) rfl (by show 2 * 0 + _ ≤ _; exact Nat.le_of_eq rfl) (hb hby at_29) (fun _ _ => ⟨rfl, rfl, (by decide : 1 + 0 ≤ _), (by decide : 2 + 0 ≤ _)⟩)
  dsimp only [Pt.U, Pt.locs, Pt.cells, Pt.slots] at X5 l5 y5 z5 st5 hQ5
  subst l5 y5 z5
  obtain ⟨rfl, N5q, e5⟩ := hQ5
  have N5 := Fr.app N4 N5q
  have sg46_7 : ∀ t, Steps p.tables e below (T5.setTop (mkF m 58 #[.val (.long q1), .second, .val (.long q2), .second, .val (.long q3), .second, .val (.ref b1), .val (.int (v3 q1 (0 : Int64) (0 : Int32))), .val (.int (v3 q2 ((0 : Int64) + q1) (0 : Int32))), .val (.int (v4 q3 (((0 : Int64) + q1) + q2))), .val (.long (4000000 : Int64)), .second, .val (.long (q1 + q2)), .second] [(.int (j0_58_s0 q1 q2 q3)), (.int (v3 q1 (0 : Int64) (0 : Int32)))])) t → Steps p.tables e below (T5.setTop (mkF m 46 #[.val (.long q1), .second, .val (.long q2), .second, .val (.long q3), .second, .val (.ref b1), .val (.int (v3 q1 (0 : Int64) (0 : Int32))), .val (.int (v3 q2 ((0 : Int64) + q1) (0 : Int32))), .val (.int (v4 q3 (((0 : Int64) + q1) + q2))), .val (.long (4000000 : Int64)), .second, .val (.long (q1 + q2)), .second] [(.int (v3 q1 (0 : Int64) (0 : Int32)))])) t := by
    intro t kt
    show Steps p.tables e below (T5.setTop (mkF m 46 #[.val (.long q1), .second, .val (.long q2), .second, .val (.long q3), .second, .val (.ref b1), .val (.int (v3 q1 (0 : Int64) (0 : Int32))), .val (.int (v3 q2 ((0 : Int64) + q1) (0 : Int32))), .val (.int (v4 q3 (((0 : Int64) + q1) + q2))), .val (.long (4000000 : Int64)), .second, .val (.long (q1 + q2)), .second] [(.int (v3 q1 (0 : Int64) (0 : Int32)))])) _
    refine XS.lloadN X5.here hx rfl (hb hby at_46) rfl ?_
    show Steps p.tables e below (T5.setTop (mkF m 47 #[.val (.long q1), .second, .val (.long q2), .second, .val (.long q3), .second, .val (.ref b1), .val (.int (v3 q1 (0 : Int64) (0 : Int32))), .val (.int (v3 q2 ((0 : Int64) + q1) (0 : Int32))), .val (.int (v4 q3 (((0 : Int64) + q1) + q2))), .val (.long (4000000 : Int64)), .second, .val (.long (q1 + q2)), .second] [(.long q1), (.int (v3 q1 (0 : Int64) (0 : Int32)))])) _
    refine XS.lload X5.here hx rfl (hb hby at_47) rfl ?_
    show Steps p.tables e below (T5.setTop (mkF m 49 #[.val (.long q1), .second, .val (.long q2), .second, .val (.long q3), .second, .val (.ref b1), .val (.int (v3 q1 (0 : Int64) (0 : Int32))), .val (.int (v3 q2 ((0 : Int64) + q1) (0 : Int32))), .val (.int (v4 q3 (((0 : Int64) + q1) + q2))), .val (.long (4000000 : Int64)), .second, .val (.long (q1 + q2)), .second] [(.long (4000000 : Int64)), (.long q1), (.int (v3 q1 (0 : Int64) (0 : Int32)))])) _
    refine XS.lcmp X5.here hx rfl (hb hby at_49) rfl ?_
    show Steps p.tables e below (T5.setTop (mkF m 50 #[.val (.long q1), .second, .val (.long q2), .second, .val (.long q3), .second, .val (.ref b1), .val (.int (v3 q1 (0 : Int64) (0 : Int32))), .val (.int (v3 q2 ((0 : Int64) + q1) (0 : Int32))), .val (.int (v4 q3 (((0 : Int64) + q1) + q2))), .val (.long (4000000 : Int64)), .second, .val (.long (q1 + q2)), .second] [(.int (lcmpW q1 (4000000 : Int64))), (.int (v3 q1 (0 : Int64) (0 : Int32)))])) _
    by_cases hc50_6 : (0 : Int32) < (lcmpW q1 (4000000 : Int64))
    · refine XS.ifYes X5.here hx rfl (pc0 := 50) (pc' := 57) rfl (hb hby at_50) rfl ((if0 _ _).trans (tlt hc50_6).2.2.1) (by decide) (by decide) ?_
      show Steps p.tables e below (T5.setTop (mkF m 57 #[.val (.long q1), .second, .val (.long q2), .second, .val (.long q3), .second, .val (.ref b1), .val (.int (v3 q1 (0 : Int64) (0 : Int32))), .val (.int (v3 q2 ((0 : Int64) + q1) (0 : Int32))), .val (.int (v4 q3 (((0 : Int64) + q1) + q2))), .val (.long (4000000 : Int64)), .second, .val (.long (q1 + q2)), .second] [(.int (v3 q1 (0 : Int64) (0 : Int32)))])) _
      refine XS.iconst X5.here hx rfl (hb hby at_57) ?_
      rw [show (j0_58_s0 q1 q2 q3) = (0 : Int32) from (if_pos hc50_6)] at kt
      exact kt
    · refine XS.ifNo X5.here hx rfl (hb hby at_50) rfl ((if0 _ _).trans (flt hc50_6).2.2.1) ?_
      show Steps p.tables e below (T5.setTop (mkF m 53 #[.val (.long q1), .second, .val (.long q2), .second, .val (.long q3), .second, .val (.ref b1), .val (.int (v3 q1 (0 : Int64) (0 : Int32))), .val (.int (v3 q2 ((0 : Int64) + q1) (0 : Int32))), .val (.int (v4 q3 (((0 : Int64) + q1) + q2))), .val (.long (4000000 : Int64)), .second, .val (.long (q1 + q2)), .second] [(.int (v3 q1 (0 : Int64) (0 : Int32)))])) _
      refine XS.iconst X5.here hx rfl (hb hby at_53) ?_
      show Steps p.tables e below (T5.setTop (mkF m 54 #[.val (.long q1), .second, .val (.long q2), .second, .val (.long q3), .second, .val (.ref b1), .val (.int (v3 q1 (0 : Int64) (0 : Int32))), .val (.int (v3 q2 ((0 : Int64) + q1) (0 : Int32))), .val (.int (v4 q3 (((0 : Int64) + q1) + q2))), .val (.long (4000000 : Int64)), .second, .val (.long (q1 + q2)), .second] [(.int (1 : Int32)), (.int (v3 q1 (0 : Int64) (0 : Int32)))])) _
      refine XS.goto X5.here hx rfl (pc0 := 54) (pc' := 58) rfl (hb hby at_54) (by decide) (by decide) ?_
      rw [show (j0_58_s0 q1 q2 q3) = (1 : Int32) from (if_neg hc50_6)] at kt
      exact kt
  by_cases hc58_8 : (v3 q1 (0 : Int64) (0 : Int32)) = (j0_58_s0 q1 q2 q3)
  · have sg63_10 : ∀ t, Steps p.tables e below (T5.setTop (mkF m 76 #[.val (.long q1), .second, .val (.long q2), .second, .val (.long q3), .second, .val (.ref b1), .val (.int (v3 q1 (0 : Int64) (0 : Int32))), .val (.int (v3 q2 ((0 : Int64) + q1) (0 : Int32))), .val (.int (v4 q3 (((0 : Int64) + q1) + q2))), .val (.long (4000000 : Int64)), .second, .val (.long (q1 + q2)), .second] [(.int (j0_76_s0 q1 q2 q3)), (.int (v3 q2 ((0 : Int64) + q1) (0 : Int32)))])) t → Steps p.tables e below (T5.setTop (mkF m 63 #[.val (.long q1), .second, .val (.long q2), .second, .val (.long q3), .second, .val (.ref b1), .val (.int (v3 q1 (0 : Int64) (0 : Int32))), .val (.int (v3 q2 ((0 : Int64) + q1) (0 : Int32))), .val (.int (v4 q3 (((0 : Int64) + q1) + q2))), .val (.long (4000000 : Int64)), .second, .val (.long (q1 + q2)), .second] [(.int (v3 q2 ((0 : Int64) + q1) (0 : Int32)))])) t := by
      intro t kt
      show Steps p.tables e below (T5.setTop (mkF m 63 #[.val (.long q1), .second, .val (.long q2), .second, .val (.long q3), .second, .val (.ref b1), .val (.int (v3 q1 (0 : Int64) (0 : Int32))), .val (.int (v3 q2 ((0 : Int64) + q1) (0 : Int32))), .val (.int (v4 q3 (((0 : Int64) + q1) + q2))), .val (.long (4000000 : Int64)), .second, .val (.long (q1 + q2)), .second] [(.int (v3 q2 ((0 : Int64) + q1) (0 : Int32)))])) _
      refine XS.lload X5.here hx rfl (hb hby at_63) rfl ?_
      show Steps p.tables e below (T5.setTop (mkF m 65 #[.val (.long q1), .second, .val (.long q2), .second, .val (.long q3), .second, .val (.ref b1), .val (.int (v3 q1 (0 : Int64) (0 : Int32))), .val (.int (v3 q2 ((0 : Int64) + q1) (0 : Int32))), .val (.int (v4 q3 (((0 : Int64) + q1) + q2))), .val (.long (4000000 : Int64)), .second, .val (.long (q1 + q2)), .second] [(.long (q1 + q2)), (.int (v3 q2 ((0 : Int64) + q1) (0 : Int32)))])) _
      refine XS.lload X5.here hx rfl (hb hby at_65) rfl ?_
      show Steps p.tables e below (T5.setTop (mkF m 67 #[.val (.long q1), .second, .val (.long q2), .second, .val (.long q3), .second, .val (.ref b1), .val (.int (v3 q1 (0 : Int64) (0 : Int32))), .val (.int (v3 q2 ((0 : Int64) + q1) (0 : Int32))), .val (.int (v4 q3 (((0 : Int64) + q1) + q2))), .val (.long (4000000 : Int64)), .second, .val (.long (q1 + q2)), .second] [(.long (4000000 : Int64)), (.long (q1 + q2)), (.int (v3 q2 ((0 : Int64) + q1) (0 : Int32)))])) _
      refine XS.lcmp X5.here hx rfl (hb hby at_67) rfl ?_
      show Steps p.tables e below (T5.setTop (mkF m 68 #[.val (.long q1), .second, .val (.long q2), .second, .val (.long q3), .second, .val (.ref b1), .val (.int (v3 q1 (0 : Int64) (0 : Int32))), .val (.int (v3 q2 ((0 : Int64) + q1) (0 : Int32))), .val (.int (v4 q3 (((0 : Int64) + q1) + q2))), .val (.long (4000000 : Int64)), .second, .val (.long (q1 + q2)), .second] [(.int (lcmpW (q1 + q2) (4000000 : Int64))), (.int (v3 q2 ((0 : Int64) + q1) (0 : Int32)))])) _
      by_cases hc68_9 : (0 : Int32) < (lcmpW (q1 + q2) (4000000 : Int64))
      · refine XS.ifYes X5.here hx rfl (pc0 := 68) (pc' := 75) rfl (hb hby at_68) rfl ((if0 _ _).trans (tlt hc68_9).2.2.1) (by decide) (by decide) ?_
        show Steps p.tables e below (T5.setTop (mkF m 75 #[.val (.long q1), .second, .val (.long q2), .second, .val (.long q3), .second, .val (.ref b1), .val (.int (v3 q1 (0 : Int64) (0 : Int32))), .val (.int (v3 q2 ((0 : Int64) + q1) (0 : Int32))), .val (.int (v4 q3 (((0 : Int64) + q1) + q2))), .val (.long (4000000 : Int64)), .second, .val (.long (q1 + q2)), .second] [(.int (v3 q2 ((0 : Int64) + q1) (0 : Int32)))])) _
        refine XS.iconst X5.here hx rfl (hb hby at_75) ?_
        rw [show (j0_76_s0 q1 q2 q3) = (0 : Int32) from (if_pos hc68_9)] at kt
        exact kt
      · refine XS.ifNo X5.here hx rfl (hb hby at_68) rfl ((if0 _ _).trans (flt hc68_9).2.2.1) ?_
        show Steps p.tables e below (T5.setTop (mkF m 71 #[.val (.long q1), .second, .val (.long q2), .second, .val (.long q3), .second, .val (.ref b1), .val (.int (v3 q1 (0 : Int64) (0 : Int32))), .val (.int (v3 q2 ((0 : Int64) + q1) (0 : Int32))), .val (.int (v4 q3 (((0 : Int64) + q1) + q2))), .val (.long (4000000 : Int64)), .second, .val (.long (q1 + q2)), .second] [(.int (v3 q2 ((0 : Int64) + q1) (0 : Int32)))])) _
        refine XS.iconst X5.here hx rfl (hb hby at_71) ?_
        show Steps p.tables e below (T5.setTop (mkF m 72 #[.val (.long q1), .second, .val (.long q2), .second, .val (.long q3), .second, .val (.ref b1), .val (.int (v3 q1 (0 : Int64) (0 : Int32))), .val (.int (v3 q2 ((0 : Int64) + q1) (0 : Int32))), .val (.int (v4 q3 (((0 : Int64) + q1) + q2))), .val (.long (4000000 : Int64)), .second, .val (.long (q1 + q2)), .second] [(.int (1 : Int32)), (.int (v3 q2 ((0 : Int64) + q1) (0 : Int32)))])) _
        refine XS.goto X5.here hx rfl (pc0 := 72) (pc' := 76) rfl (hb hby at_72) (by decide) (by decide) ?_
        rw [show (j0_76_s0 q1 q2 q3) = (1 : Int32) from (if_neg hc68_9)] at kt
        exact kt
    by_cases hc76_11 : (v3 q2 ((0 : Int64) + q1) (0 : Int32)) = (j0_76_s0 q1 q2 q3)
    · have sg81_13 : ∀ t, Steps p.tables e below (T5.setTop (mkF m 97 #[.val (.long q1), .second, .val (.long q2), .second, .val (.long q3), .second, .val (.ref b1), .val (.int (v3 q1 (0 : Int64) (0 : Int32))), .val (.int (v3 q2 ((0 : Int64) + q1) (0 : Int32))), .val (.int (v4 q3 (((0 : Int64) + q1) + q2))), .val (.long (4000000 : Int64)), .second, .val (.long (q1 + q2)), .second] [(.int (j0_97_s0 q1 q2 q3)), (.int (v4 q3 (((0 : Int64) + q1) + q2)))])) t → Steps p.tables e below (T5.setTop (mkF m 81 #[.val (.long q1), .second, .val (.long q2), .second, .val (.long q3), .second, .val (.ref b1), .val (.int (v3 q1 (0 : Int64) (0 : Int32))), .val (.int (v3 q2 ((0 : Int64) + q1) (0 : Int32))), .val (.int (v4 q3 (((0 : Int64) + q1) + q2))), .val (.long (4000000 : Int64)), .second, .val (.long (q1 + q2)), .second] [(.int (v4 q3 (((0 : Int64) + q1) + q2)))])) t := by
        intro t kt
        show Steps p.tables e below (T5.setTop (mkF m 81 #[.val (.long q1), .second, .val (.long q2), .second, .val (.long q3), .second, .val (.ref b1), .val (.int (v3 q1 (0 : Int64) (0 : Int32))), .val (.int (v3 q2 ((0 : Int64) + q1) (0 : Int32))), .val (.int (v4 q3 (((0 : Int64) + q1) + q2))), .val (.long (4000000 : Int64)), .second, .val (.long (q1 + q2)), .second] [(.int (v4 q3 (((0 : Int64) + q1) + q2)))])) _
        refine XS.lload X5.here hx rfl (hb hby at_81) rfl ?_
        show Steps p.tables e below (T5.setTop (mkF m 83 #[.val (.long q1), .second, .val (.long q2), .second, .val (.long q3), .second, .val (.ref b1), .val (.int (v3 q1 (0 : Int64) (0 : Int32))), .val (.int (v3 q2 ((0 : Int64) + q1) (0 : Int32))), .val (.int (v4 q3 (((0 : Int64) + q1) + q2))), .val (.long (4000000 : Int64)), .second, .val (.long (q1 + q2)), .second] [(.long (q1 + q2)), (.int (v4 q3 (((0 : Int64) + q1) + q2)))])) _
        refine XS.lload X5.here hx rfl (hb hby at_83) rfl ?_
        show Steps p.tables e below (T5.setTop (mkF m 85 #[.val (.long q1), .second, .val (.long q2), .second, .val (.long q3), .second, .val (.ref b1), .val (.int (v3 q1 (0 : Int64) (0 : Int32))), .val (.int (v3 q2 ((0 : Int64) + q1) (0 : Int32))), .val (.int (v4 q3 (((0 : Int64) + q1) + q2))), .val (.long (4000000 : Int64)), .second, .val (.long (q1 + q2)), .second] [(.long q3), (.long (q1 + q2)), (.int (v4 q3 (((0 : Int64) + q1) + q2)))])) _
        refine XS.ladd X5.here hx rfl (hb hby at_85) rfl ?_
        show Steps p.tables e below (T5.setTop (mkF m 86 #[.val (.long q1), .second, .val (.long q2), .second, .val (.long q3), .second, .val (.ref b1), .val (.int (v3 q1 (0 : Int64) (0 : Int32))), .val (.int (v3 q2 ((0 : Int64) + q1) (0 : Int32))), .val (.int (v4 q3 (((0 : Int64) + q1) + q2))), .val (.long (4000000 : Int64)), .second, .val (.long (q1 + q2)), .second] [(.long ((q1 + q2) + q3)), (.int (v4 q3 (((0 : Int64) + q1) + q2)))])) _
        refine XS.lload X5.here hx rfl (hb hby at_86) rfl ?_
        show Steps p.tables e below (T5.setTop (mkF m 88 #[.val (.long q1), .second, .val (.long q2), .second, .val (.long q3), .second, .val (.ref b1), .val (.int (v3 q1 (0 : Int64) (0 : Int32))), .val (.int (v3 q2 ((0 : Int64) + q1) (0 : Int32))), .val (.int (v4 q3 (((0 : Int64) + q1) + q2))), .val (.long (4000000 : Int64)), .second, .val (.long (q1 + q2)), .second] [(.long (4000000 : Int64)), (.long ((q1 + q2) + q3)), (.int (v4 q3 (((0 : Int64) + q1) + q2)))])) _
        refine XS.lcmp X5.here hx rfl (hb hby at_88) rfl ?_
        show Steps p.tables e below (T5.setTop (mkF m 89 #[.val (.long q1), .second, .val (.long q2), .second, .val (.long q3), .second, .val (.ref b1), .val (.int (v3 q1 (0 : Int64) (0 : Int32))), .val (.int (v3 q2 ((0 : Int64) + q1) (0 : Int32))), .val (.int (v4 q3 (((0 : Int64) + q1) + q2))), .val (.long (4000000 : Int64)), .second, .val (.long (q1 + q2)), .second] [(.int (lcmpW ((q1 + q2) + q3) (4000000 : Int64))), (.int (v4 q3 (((0 : Int64) + q1) + q2)))])) _
        by_cases hc89_12 : (0 : Int32) < (lcmpW ((q1 + q2) + q3) (4000000 : Int64))
        · refine XS.ifYes X5.here hx rfl (pc0 := 89) (pc' := 96) rfl (hb hby at_89) rfl ((if0 _ _).trans (tlt hc89_12).2.2.1) (by decide) (by decide) ?_
          show Steps p.tables e below (T5.setTop (mkF m 96 #[.val (.long q1), .second, .val (.long q2), .second, .val (.long q3), .second, .val (.ref b1), .val (.int (v3 q1 (0 : Int64) (0 : Int32))), .val (.int (v3 q2 ((0 : Int64) + q1) (0 : Int32))), .val (.int (v4 q3 (((0 : Int64) + q1) + q2))), .val (.long (4000000 : Int64)), .second, .val (.long (q1 + q2)), .second] [(.int (v4 q3 (((0 : Int64) + q1) + q2)))])) _
          refine XS.iconst X5.here hx rfl (hb hby at_96) ?_
          rw [show (j0_97_s0 q1 q2 q3) = (0 : Int32) from (if_pos hc89_12)] at kt
          exact kt
        · refine XS.ifNo X5.here hx rfl (hb hby at_89) rfl ((if0 _ _).trans (flt hc89_12).2.2.1) ?_
          show Steps p.tables e below (T5.setTop (mkF m 92 #[.val (.long q1), .second, .val (.long q2), .second, .val (.long q3), .second, .val (.ref b1), .val (.int (v3 q1 (0 : Int64) (0 : Int32))), .val (.int (v3 q2 ((0 : Int64) + q1) (0 : Int32))), .val (.int (v4 q3 (((0 : Int64) + q1) + q2))), .val (.long (4000000 : Int64)), .second, .val (.long (q1 + q2)), .second] [(.int (v4 q3 (((0 : Int64) + q1) + q2)))])) _
          refine XS.iconst X5.here hx rfl (hb hby at_92) ?_
          show Steps p.tables e below (T5.setTop (mkF m 93 #[.val (.long q1), .second, .val (.long q2), .second, .val (.long q3), .second, .val (.ref b1), .val (.int (v3 q1 (0 : Int64) (0 : Int32))), .val (.int (v3 q2 ((0 : Int64) + q1) (0 : Int32))), .val (.int (v4 q3 (((0 : Int64) + q1) + q2))), .val (.long (4000000 : Int64)), .second, .val (.long (q1 + q2)), .second] [(.int (1 : Int32)), (.int (v4 q3 (((0 : Int64) + q1) + q2)))])) _
          refine XS.goto X5.here hx rfl (pc0 := 93) (pc' := 97) rfl (hb hby at_93) (by decide) (by decide) ?_
          rw [show (j0_97_s0 q1 q2 q3) = (1 : Int32) from (if_neg hc89_12)] at kt
          exact kt
      by_cases hc97_14 : (v4 q3 (((0 : Int64) + q1) + q2)) = (j0_97_s0 q1 q2 q3)
      · obtain ⟨fs, hr, hrun, hended, hW, hsame⟩ := X5.leave (v := some (.int (1 : Int32))) (fun h => by rw [Bd.returns] at h; cases h)
        refine ⟨_, _, pre0 _ ?_, hrun, hended, _, _, rfl, ?_, ⟨_, rfl⟩, hW, hsame.mono (by decide) (by decide)⟩
        · show Steps p.tables e below (s₁.setTop (mkF m 0 #[.val (.long q1), .second, .val (.long q2), .second, .val (.long q3), .second, .unset, .unset, .unset, .unset, .unset, .unset, .unset, .unset] [])) _
          refine st1 _ ?_
          show Steps p.tables e below (T1.setTop (mkF m 3 #[.val (.long q1), .second, .val (.long q2), .second, .val (.long q3), .second, .unset, .unset, .unset, .unset, .unset, .unset, .unset, .unset] [(.ref b1)])) _
          refine XS.dup X1.here hx rfl (hb hby at_3) rfl rfl ?_
          show Steps p.tables e below (T1.setTop (mkF m 4 #[.val (.long q1), .second, .val (.long q2), .second, .val (.long q3), .second, .unset, .unset, .unset, .unset, .unset, .unset, .unset, .unset] [(.ref b1), (.ref b1)])) _
          refine st2.trans ?_
          show Steps p.tables e below (T2.setTop (mkF m 7 #[.val (.long q1), .second, .val (.long q2), .second, .val (.long q3), .second, .unset, .unset, .unset, .unset, .unset, .unset, .unset, .unset] [(.ref b1)])) _
          refine XS.astore X2.here hx rfl (hb hby at_7) rfl rfl (l' := #[.val (.long q1), .second, .val (.long q2), .second, .val (.long q3), .second, .val (.ref b1), .unset, .unset, .unset, .unset, .unset, .unset, .unset]) rfl ?_
          show Steps p.tables e below (T2.setTop (mkF m 9 #[.val (.long q1), .second, .val (.long q2), .second, .val (.long q3), .second, .val (.ref b1), .unset, .unset, .unset, .unset, .unset, .unset, .unset] [])) _
          refine XS.aload X2.here hx rfl (hb hby at_9) rfl rfl ?_
          show Steps p.tables e below (T2.setTop (mkF m 11 #[.val (.long q1), .second, .val (.long q2), .second, .val (.long q3), .second, .val (.ref b1), .unset, .unset, .unset, .unset, .unset, .unset, .unset] [(.ref b1)])) _
          refine XS.lloadN X2.here hx rfl (hb hby at_11) rfl ?_
          show Steps p.tables e below (T2.setTop (mkF m 12 #[.val (.long q1), .second, .val (.long q2), .second, .val (.long q3), .second, .val (.ref b1), .unset, .unset, .unset, .unset, .unset, .unset, .unset] [(.long q1), (.ref b1)])) _
          refine st3.trans ?_
          show Steps p.tables e below (T3.setTop (mkF m 15 #[.val (.long q1), .second, .val (.long q2), .second, .val (.long q3), .second, .val (.ref b1), .unset, .unset, .unset, .unset, .unset, .unset, .unset] [(.int (v3 q1 (0 : Int64) (0 : Int32)))])) _
          refine XS.istore X3.here hx rfl (hb hby at_15) rfl (l' := #[.val (.long q1), .second, .val (.long q2), .second, .val (.long q3), .second, .val (.ref b1), .val (.int (v3 q1 (0 : Int64) (0 : Int32))), .unset, .unset, .unset, .unset, .unset, .unset]) rfl ?_
          show Steps p.tables e below (T3.setTop (mkF m 17 #[.val (.long q1), .second, .val (.long q2), .second, .val (.long q3), .second, .val (.ref b1), .val (.int (v3 q1 (0 : Int64) (0 : Int32))), .unset, .unset, .unset, .unset, .unset, .unset] [])) _
          refine XS.aload X3.here hx rfl (hb hby at_17) rfl rfl ?_
          show Steps p.tables e below (T3.setTop (mkF m 19 #[.val (.long q1), .second, .val (.long q2), .second, .val (.long q3), .second, .val (.ref b1), .val (.int (v3 q1 (0 : Int64) (0 : Int32))), .unset, .unset, .unset, .unset, .unset, .unset] [(.ref b1)])) _
          refine XS.lloadN X3.here hx rfl (hb hby at_19) rfl ?_
          show Steps p.tables e below (T3.setTop (mkF m 20 #[.val (.long q1), .second, .val (.long q2), .second, .val (.long q3), .second, .val (.ref b1), .val (.int (v3 q1 (0 : Int64) (0 : Int32))), .unset, .unset, .unset, .unset, .unset, .unset] [(.long q2), (.ref b1)])) _
          refine st4.trans ?_
          show Steps p.tables e below (T4.setTop (mkF m 23 #[.val (.long q1), .second, .val (.long q2), .second, .val (.long q3), .second, .val (.ref b1), .val (.int (v3 q1 (0 : Int64) (0 : Int32))), .unset, .unset, .unset, .unset, .unset, .unset] [(.int (v3 q2 ((0 : Int64) + q1) (0 : Int32)))])) _
          refine XS.istore X4.here hx rfl (hb hby at_23) rfl (l' := #[.val (.long q1), .second, .val (.long q2), .second, .val (.long q3), .second, .val (.ref b1), .val (.int (v3 q1 (0 : Int64) (0 : Int32))), .val (.int (v3 q2 ((0 : Int64) + q1) (0 : Int32))), .unset, .unset, .unset, .unset, .unset]) rfl ?_
          show Steps p.tables e below (T4.setTop (mkF m 25 #[.val (.long q1), .second, .val (.long q2), .second, .val (.long q3), .second, .val (.ref b1), .val (.int (v3 q1 (0 : Int64) (0 : Int32))), .val (.int (v3 q2 ((0 : Int64) + q1) (0 : Int32))), .unset, .unset, .unset, .unset, .unset] [])) _
          refine XS.aload X4.here hx rfl (hb hby at_25) rfl rfl ?_
          show Steps p.tables e below (T4.setTop (mkF m 27 #[.val (.long q1), .second, .val (.long q2), .second, .val (.long q3), .second, .val (.ref b1), .val (.int (v3 q1 (0 : Int64) (0 : Int32))), .val (.int (v3 q2 ((0 : Int64) + q1) (0 : Int32))), .unset, .unset, .unset, .unset, .unset] [(.ref b1)])) _
          refine XS.lload X4.here hx rfl (hb hby at_27) rfl ?_
          show Steps p.tables e below (T4.setTop (mkF m 29 #[.val (.long q1), .second, .val (.long q2), .second, .val (.long q3), .second, .val (.ref b1), .val (.int (v3 q1 (0 : Int64) (0 : Int32))), .val (.int (v3 q2 ((0 : Int64) + q1) (0 : Int32))), .unset, .unset, .unset, .unset, .unset] [(.long q3), (.ref b1)])) _
          refine st5.trans ?_
          show Steps p.tables e below (T5.setTop (mkF m 32 #[.val (.long q1), .second, .val (.long q2), .second, .val (.long q3), .second, .val (.ref b1), .val (.int (v3 q1 (0 : Int64) (0 : Int32))), .val (.int (v3 q2 ((0 : Int64) + q1) (0 : Int32))), .unset, .unset, .unset, .unset, .unset] [(.int (v4 q3 (((0 : Int64) + q1) + q2)))])) _
          refine XS.istore X5.here hx rfl (hb hby at_32) rfl (l' := #[.val (.long q1), .second, .val (.long q2), .second, .val (.long q3), .second, .val (.ref b1), .val (.int (v3 q1 (0 : Int64) (0 : Int32))), .val (.int (v3 q2 ((0 : Int64) + q1) (0 : Int32))), .val (.int (v4 q3 (((0 : Int64) + q1) + q2))), .unset, .unset, .unset, .unset]) rfl ?_
          show Steps p.tables e below (T5.setTop (mkF m 34 #[.val (.long q1), .second, .val (.long q2), .second, .val (.long q3), .second, .val (.ref b1), .val (.int (v3 q1 (0 : Int64) (0 : Int32))), .val (.int (v3 q2 ((0 : Int64) + q1) (0 : Int32))), .val (.int (v4 q3 (((0 : Int64) + q1) + q2))), .unset, .unset, .unset, .unset] [])) _
          refine X5.ldc2Long hx hown (mvT hZ (hw _ (List.mem_of_getElem? (i := 25) rfl))) (g := (mkF m 34 #[.val (.long q1), .second, .val (.long q2), .second, .val (.long q3), .second, .val (.ref b1), .val (.int (v3 q1 (0 : Int64) (0 : Int32))), .val (.int (v3 q2 ((0 : Int64) + q1) (0 : Int32))), .val (.int (v4 q3 (((0 : Int64) + q1) + q2))), .unset, .unset, .unset, .unset] [])) rfl (hb hby at_34) _ ?_
          show Steps p.tables e below (T5.setTop (mkF m 37 #[.val (.long q1), .second, .val (.long q2), .second, .val (.long q3), .second, .val (.ref b1), .val (.int (v3 q1 (0 : Int64) (0 : Int32))), .val (.int (v3 q2 ((0 : Int64) + q1) (0 : Int32))), .val (.int (v4 q3 (((0 : Int64) + q1) + q2))), .unset, .unset, .unset, .unset] [(.long (4000000 : Int64))])) _
          refine XS.lstore X5.here hx rfl (hb hby at_37) rfl (l' := #[.val (.long q1), .second, .val (.long q2), .second, .val (.long q3), .second, .val (.ref b1), .val (.int (v3 q1 (0 : Int64) (0 : Int32))), .val (.int (v3 q2 ((0 : Int64) + q1) (0 : Int32))), .val (.int (v4 q3 (((0 : Int64) + q1) + q2))), .val (.long (4000000 : Int64)), .second, .unset, .unset]) rfl ?_
          show Steps p.tables e below (T5.setTop (mkF m 39 #[.val (.long q1), .second, .val (.long q2), .second, .val (.long q3), .second, .val (.ref b1), .val (.int (v3 q1 (0 : Int64) (0 : Int32))), .val (.int (v3 q2 ((0 : Int64) + q1) (0 : Int32))), .val (.int (v4 q3 (((0 : Int64) + q1) + q2))), .val (.long (4000000 : Int64)), .second, .unset, .unset] [])) _
          refine XS.lloadN X5.here hx rfl (hb hby at_39) rfl ?_
          show Steps p.tables e below (T5.setTop (mkF m 40 #[.val (.long q1), .second, .val (.long q2), .second, .val (.long q3), .second, .val (.ref b1), .val (.int (v3 q1 (0 : Int64) (0 : Int32))), .val (.int (v3 q2 ((0 : Int64) + q1) (0 : Int32))), .val (.int (v4 q3 (((0 : Int64) + q1) + q2))), .val (.long (4000000 : Int64)), .second, .unset, .unset] [(.long q1)])) _
          refine XS.lloadN X5.here hx rfl (hb hby at_40) rfl ?_
          show Steps p.tables e below (T5.setTop (mkF m 41 #[.val (.long q1), .second, .val (.long q2), .second, .val (.long q3), .second, .val (.ref b1), .val (.int (v3 q1 (0 : Int64) (0 : Int32))), .val (.int (v3 q2 ((0 : Int64) + q1) (0 : Int32))), .val (.int (v4 q3 (((0 : Int64) + q1) + q2))), .val (.long (4000000 : Int64)), .second, .unset, .unset] [(.long q2), (.long q1)])) _
          refine XS.ladd X5.here hx rfl (hb hby at_41) rfl ?_
          show Steps p.tables e below (T5.setTop (mkF m 42 #[.val (.long q1), .second, .val (.long q2), .second, .val (.long q3), .second, .val (.ref b1), .val (.int (v3 q1 (0 : Int64) (0 : Int32))), .val (.int (v3 q2 ((0 : Int64) + q1) (0 : Int32))), .val (.int (v4 q3 (((0 : Int64) + q1) + q2))), .val (.long (4000000 : Int64)), .second, .unset, .unset] [(.long (q1 + q2))])) _
          refine XS.lstore X5.here hx rfl (hb hby at_42) rfl (l' := #[.val (.long q1), .second, .val (.long q2), .second, .val (.long q3), .second, .val (.ref b1), .val (.int (v3 q1 (0 : Int64) (0 : Int32))), .val (.int (v3 q2 ((0 : Int64) + q1) (0 : Int32))), .val (.int (v4 q3 (((0 : Int64) + q1) + q2))), .val (.long (4000000 : Int64)), .second, .val (.long (q1 + q2)), .second]) rfl ?_
          show Steps p.tables e below (T5.setTop (mkF m 44 #[.val (.long q1), .second, .val (.long q2), .second, .val (.long q3), .second, .val (.ref b1), .val (.int (v3 q1 (0 : Int64) (0 : Int32))), .val (.int (v3 q2 ((0 : Int64) + q1) (0 : Int32))), .val (.int (v4 q3 (((0 : Int64) + q1) + q2))), .val (.long (4000000 : Int64)), .second, .val (.long (q1 + q2)), .second] [])) _
          refine XS.iload X5.here hx rfl (hb hby at_44) rfl ?_
          show Steps p.tables e below (T5.setTop (mkF m 46 #[.val (.long q1), .second, .val (.long q2), .second, .val (.long q3), .second, .val (.ref b1), .val (.int (v3 q1 (0 : Int64) (0 : Int32))), .val (.int (v3 q2 ((0 : Int64) + q1) (0 : Int32))), .val (.int (v4 q3 (((0 : Int64) + q1) + q2))), .val (.long (4000000 : Int64)), .second, .val (.long (q1 + q2)), .second] [(.int (v3 q1 (0 : Int64) (0 : Int32)))])) _
          refine sg46_7 _ ?_
          show Steps p.tables e below (T5.setTop (mkF m 58 #[.val (.long q1), .second, .val (.long q2), .second, .val (.long q3), .second, .val (.ref b1), .val (.int (v3 q1 (0 : Int64) (0 : Int32))), .val (.int (v3 q2 ((0 : Int64) + q1) (0 : Int32))), .val (.int (v4 q3 (((0 : Int64) + q1) + q2))), .val (.long (4000000 : Int64)), .second, .val (.long (q1 + q2)), .second] [(.int (j0_58_s0 q1 q2 q3)), (.int (v3 q1 (0 : Int64) (0 : Int32)))])) _
          refine XS.icmpNo X5.here hx rfl (hb hby at_58) rfl (teq hc58_8).2 ?_
          show Steps p.tables e below (T5.setTop (mkF m 61 #[.val (.long q1), .second, .val (.long q2), .second, .val (.long q3), .second, .val (.ref b1), .val (.int (v3 q1 (0 : Int64) (0 : Int32))), .val (.int (v3 q2 ((0 : Int64) + q1) (0 : Int32))), .val (.int (v4 q3 (((0 : Int64) + q1) + q2))), .val (.long (4000000 : Int64)), .second, .val (.long (q1 + q2)), .second] [])) _
          refine XS.iload X5.here hx rfl (hb hby at_61) rfl ?_
          show Steps p.tables e below (T5.setTop (mkF m 63 #[.val (.long q1), .second, .val (.long q2), .second, .val (.long q3), .second, .val (.ref b1), .val (.int (v3 q1 (0 : Int64) (0 : Int32))), .val (.int (v3 q2 ((0 : Int64) + q1) (0 : Int32))), .val (.int (v4 q3 (((0 : Int64) + q1) + q2))), .val (.long (4000000 : Int64)), .second, .val (.long (q1 + q2)), .second] [(.int (v3 q2 ((0 : Int64) + q1) (0 : Int32)))])) _
          refine sg63_10 _ ?_
          show Steps p.tables e below (T5.setTop (mkF m 76 #[.val (.long q1), .second, .val (.long q2), .second, .val (.long q3), .second, .val (.ref b1), .val (.int (v3 q1 (0 : Int64) (0 : Int32))), .val (.int (v3 q2 ((0 : Int64) + q1) (0 : Int32))), .val (.int (v4 q3 (((0 : Int64) + q1) + q2))), .val (.long (4000000 : Int64)), .second, .val (.long (q1 + q2)), .second] [(.int (j0_76_s0 q1 q2 q3)), (.int (v3 q2 ((0 : Int64) + q1) (0 : Int32)))])) _
          refine XS.icmpNo X5.here hx rfl (hb hby at_76) rfl (teq hc76_11).2 ?_
          show Steps p.tables e below (T5.setTop (mkF m 79 #[.val (.long q1), .second, .val (.long q2), .second, .val (.long q3), .second, .val (.ref b1), .val (.int (v3 q1 (0 : Int64) (0 : Int32))), .val (.int (v3 q2 ((0 : Int64) + q1) (0 : Int32))), .val (.int (v4 q3 (((0 : Int64) + q1) + q2))), .val (.long (4000000 : Int64)), .second, .val (.long (q1 + q2)), .second] [])) _
          refine XS.iload X5.here hx rfl (hb hby at_79) rfl ?_
          show Steps p.tables e below (T5.setTop (mkF m 81 #[.val (.long q1), .second, .val (.long q2), .second, .val (.long q3), .second, .val (.ref b1), .val (.int (v3 q1 (0 : Int64) (0 : Int32))), .val (.int (v3 q2 ((0 : Int64) + q1) (0 : Int32))), .val (.int (v4 q3 (((0 : Int64) + q1) + q2))), .val (.long (4000000 : Int64)), .second, .val (.long (q1 + q2)), .second] [(.int (v4 q3 (((0 : Int64) + q1) + q2)))])) _
          refine sg81_13 _ ?_
          show Steps p.tables e below (T5.setTop (mkF m 97 #[.val (.long q1), .second, .val (.long q2), .second, .val (.long q3), .second, .val (.ref b1), .val (.int (v3 q1 (0 : Int64) (0 : Int32))), .val (.int (v3 q2 ((0 : Int64) + q1) (0 : Int32))), .val (.int (v4 q3 (((0 : Int64) + q1) + q2))), .val (.long (4000000 : Int64)), .second, .val (.long (q1 + q2)), .second] [(.int (j0_97_s0 q1 q2 q3)), (.int (v4 q3 (((0 : Int64) + q1) + q2)))])) _
          refine XS.icmpNo X5.here hx rfl (hb hby at_97) rfl (teq hc97_14).2 ?_
          show Steps p.tables e below (T5.setTop (mkF m 100 #[.val (.long q1), .second, .val (.long q2), .second, .val (.long q3), .second, .val (.ref b1), .val (.int (v3 q1 (0 : Int64) (0 : Int32))), .val (.int (v3 q2 ((0 : Int64) + q1) (0 : Int32))), .val (.int (v4 q3 (((0 : Int64) + q1) + q2))), .val (.long (4000000 : Int64)), .second, .val (.long (q1 + q2)), .second] [])) _
          refine XS.iconst X5.here hx rfl (hb hby at_100) ?_
          show Steps p.tables e below (T5.setTop (mkF m 101 #[.val (.long q1), .second, .val (.long q2), .second, .val (.long q3), .second, .val (.ref b1), .val (.int (v3 q1 (0 : Int64) (0 : Int32))), .val (.int (v3 q2 ((0 : Int64) + q1) (0 : Int32))), .val (.int (v4 q3 (((0 : Int64) + q1) + q2))), .val (.long (4000000 : Int64)), .second, .val (.long (q1 + q2)), .second] [(.int (1 : Int32))])) _
          refine XS.goto X5.here hx rfl (pc0 := 101) (pc' := 105) rfl (hb hby at_101) (by decide) (by decide) ?_
          show Steps p.tables e below (T5.setTop (mkF m 105 #[.val (.long q1), .second, .val (.long q2), .second, .val (.long q3), .second, .val (.ref b1), .val (.int (v3 q1 (0 : Int64) (0 : Int32))), .val (.int (v3 q2 ((0 : Int64) + q1) (0 : Int32))), .val (.int (v4 q3 (((0 : Int64) + q1) + q2))), .val (.long (4000000 : Int64)), .second, .val (.long (q1 + q2)), .second] [(.int (1 : Int32))])) _
          exact retN X5 hx (t := .boolean) Bd.returns (by simp) (hb hby at_105) hr
        · show Q0 Z q1 q2 q3 h0 n0 _ T5.heap _
          rw [e5]
          exact ⟨congrArg (fun z => some (Value.int z)) (show v0 q1 q2 q3 = (1 : Int32) from ((if_pos hc58_8).trans ((if_pos hc76_11).trans (if_pos hc97_14)))).symm, N5, trivial⟩
      · obtain ⟨fs, hr, hrun, hended, hW, hsame⟩ := X5.leave (v := some (.int (0 : Int32))) (fun h => by rw [Bd.returns] at h; cases h)
        refine ⟨_, _, pre0 _ ?_, hrun, hended, _, _, rfl, ?_, ⟨_, rfl⟩, hW, hsame.mono (by decide) (by decide)⟩
        · show Steps p.tables e below (s₁.setTop (mkF m 0 #[.val (.long q1), .second, .val (.long q2), .second, .val (.long q3), .second, .unset, .unset, .unset, .unset, .unset, .unset, .unset, .unset] [])) _
          refine st1 _ ?_
          show Steps p.tables e below (T1.setTop (mkF m 3 #[.val (.long q1), .second, .val (.long q2), .second, .val (.long q3), .second, .unset, .unset, .unset, .unset, .unset, .unset, .unset, .unset] [(.ref b1)])) _
          refine XS.dup X1.here hx rfl (hb hby at_3) rfl rfl ?_
          show Steps p.tables e below (T1.setTop (mkF m 4 #[.val (.long q1), .second, .val (.long q2), .second, .val (.long q3), .second, .unset, .unset, .unset, .unset, .unset, .unset, .unset, .unset] [(.ref b1), (.ref b1)])) _
          refine st2.trans ?_
          show Steps p.tables e below (T2.setTop (mkF m 7 #[.val (.long q1), .second, .val (.long q2), .second, .val (.long q3), .second, .unset, .unset, .unset, .unset, .unset, .unset, .unset, .unset] [(.ref b1)])) _
          refine XS.astore X2.here hx rfl (hb hby at_7) rfl rfl (l' := #[.val (.long q1), .second, .val (.long q2), .second, .val (.long q3), .second, .val (.ref b1), .unset, .unset, .unset, .unset, .unset, .unset, .unset]) rfl ?_
          show Steps p.tables e below (T2.setTop (mkF m 9 #[.val (.long q1), .second, .val (.long q2), .second, .val (.long q3), .second, .val (.ref b1), .unset, .unset, .unset, .unset, .unset, .unset, .unset] [])) _
          refine XS.aload X2.here hx rfl (hb hby at_9) rfl rfl ?_
          show Steps p.tables e below (T2.setTop (mkF m 11 #[.val (.long q1), .second, .val (.long q2), .second, .val (.long q3), .second, .val (.ref b1), .unset, .unset, .unset, .unset, .unset, .unset, .unset] [(.ref b1)])) _
          refine XS.lloadN X2.here hx rfl (hb hby at_11) rfl ?_
          show Steps p.tables e below (T2.setTop (mkF m 12 #[.val (.long q1), .second, .val (.long q2), .second, .val (.long q3), .second, .val (.ref b1), .unset, .unset, .unset, .unset, .unset, .unset, .unset] [(.long q1), (.ref b1)])) _
          refine st3.trans ?_
          show Steps p.tables e below (T3.setTop (mkF m 15 #[.val (.long q1), .second, .val (.long q2), .second, .val (.long q3), .second, .val (.ref b1), .unset, .unset, .unset, .unset, .unset, .unset, .unset] [(.int (v3 q1 (0 : Int64) (0 : Int32)))])) _
          refine XS.istore X3.here hx rfl (hb hby at_15) rfl (l' := #[.val (.long q1), .second, .val (.long q2), .second, .val (.long q3), .second, .val (.ref b1), .val (.int (v3 q1 (0 : Int64) (0 : Int32))), .unset, .unset, .unset, .unset, .unset, .unset]) rfl ?_
          show Steps p.tables e below (T3.setTop (mkF m 17 #[.val (.long q1), .second, .val (.long q2), .second, .val (.long q3), .second, .val (.ref b1), .val (.int (v3 q1 (0 : Int64) (0 : Int32))), .unset, .unset, .unset, .unset, .unset, .unset] [])) _
          refine XS.aload X3.here hx rfl (hb hby at_17) rfl rfl ?_
          show Steps p.tables e below (T3.setTop (mkF m 19 #[.val (.long q1), .second, .val (.long q2), .second, .val (.long q3), .second, .val (.ref b1), .val (.int (v3 q1 (0 : Int64) (0 : Int32))), .unset, .unset, .unset, .unset, .unset, .unset] [(.ref b1)])) _
          refine XS.lloadN X3.here hx rfl (hb hby at_19) rfl ?_
          show Steps p.tables e below (T3.setTop (mkF m 20 #[.val (.long q1), .second, .val (.long q2), .second, .val (.long q3), .second, .val (.ref b1), .val (.int (v3 q1 (0 : Int64) (0 : Int32))), .unset, .unset, .unset, .unset, .unset, .unset] [(.long q2), (.ref b1)])) _
          refine st4.trans ?_
          show Steps p.tables e below (T4.setTop (mkF m 23 #[.val (.long q1), .second, .val (.long q2), .second, .val (.long q3), .second, .val (.ref b1), .val (.int (v3 q1 (0 : Int64) (0 : Int32))), .unset, .unset, .unset, .unset, .unset, .unset] [(.int (v3 q2 ((0 : Int64) + q1) (0 : Int32)))])) _
          refine XS.istore X4.here hx rfl (hb hby at_23) rfl (l' := #[.val (.long q1), .second, .val (.long q2), .second, .val (.long q3), .second, .val (.ref b1), .val (.int (v3 q1 (0 : Int64) (0 : Int32))), .val (.int (v3 q2 ((0 : Int64) + q1) (0 : Int32))), .unset, .unset, .unset, .unset, .unset]) rfl ?_
          show Steps p.tables e below (T4.setTop (mkF m 25 #[.val (.long q1), .second, .val (.long q2), .second, .val (.long q3), .second, .val (.ref b1), .val (.int (v3 q1 (0 : Int64) (0 : Int32))), .val (.int (v3 q2 ((0 : Int64) + q1) (0 : Int32))), .unset, .unset, .unset, .unset, .unset] [])) _
          refine XS.aload X4.here hx rfl (hb hby at_25) rfl rfl ?_
          show Steps p.tables e below (T4.setTop (mkF m 27 #[.val (.long q1), .second, .val (.long q2), .second, .val (.long q3), .second, .val (.ref b1), .val (.int (v3 q1 (0 : Int64) (0 : Int32))), .val (.int (v3 q2 ((0 : Int64) + q1) (0 : Int32))), .unset, .unset, .unset, .unset, .unset] [(.ref b1)])) _
          refine XS.lload X4.here hx rfl (hb hby at_27) rfl ?_
          show Steps p.tables e below (T4.setTop (mkF m 29 #[.val (.long q1), .second, .val (.long q2), .second, .val (.long q3), .second, .val (.ref b1), .val (.int (v3 q1 (0 : Int64) (0 : Int32))), .val (.int (v3 q2 ((0 : Int64) + q1) (0 : Int32))), .unset, .unset, .unset, .unset, .unset] [(.long q3), (.ref b1)])) _
          refine st5.trans ?_
          show Steps p.tables e below (T5.setTop (mkF m 32 #[.val (.long q1), .second, .val (.long q2), .second, .val (.long q3), .second, .val (.ref b1), .val (.int (v3 q1 (0 : Int64) (0 : Int32))), .val (.int (v3 q2 ((0 : Int64) + q1) (0 : Int32))), .unset, .unset, .unset, .unset, .unset] [(.int (v4 q3 (((0 : Int64) + q1) + q2)))])) _
          refine XS.istore X5.here hx rfl (hb hby at_32) rfl (l' := #[.val (.long q1), .second, .val (.long q2), .second, .val (.long q3), .second, .val (.ref b1), .val (.int (v3 q1 (0 : Int64) (0 : Int32))), .val (.int (v3 q2 ((0 : Int64) + q1) (0 : Int32))), .val (.int (v4 q3 (((0 : Int64) + q1) + q2))), .unset, .unset, .unset, .unset]) rfl ?_
          show Steps p.tables e below (T5.setTop (mkF m 34 #[.val (.long q1), .second, .val (.long q2), .second, .val (.long q3), .second, .val (.ref b1), .val (.int (v3 q1 (0 : Int64) (0 : Int32))), .val (.int (v3 q2 ((0 : Int64) + q1) (0 : Int32))), .val (.int (v4 q3 (((0 : Int64) + q1) + q2))), .unset, .unset, .unset, .unset] [])) _
          refine X5.ldc2Long hx hown (mvT hZ (hw _ (List.mem_of_getElem? (i := 25) rfl))) (g := (mkF m 34 #[.val (.long q1), .second, .val (.long q2), .second, .val (.long q3), .second, .val (.ref b1), .val (.int (v3 q1 (0 : Int64) (0 : Int32))), .val (.int (v3 q2 ((0 : Int64) + q1) (0 : Int32))), .val (.int (v4 q3 (((0 : Int64) + q1) + q2))), .unset, .unset, .unset, .unset] [])) rfl (hb hby at_34) _ ?_
          show Steps p.tables e below (T5.setTop (mkF m 37 #[.val (.long q1), .second, .val (.long q2), .second, .val (.long q3), .second, .val (.ref b1), .val (.int (v3 q1 (0 : Int64) (0 : Int32))), .val (.int (v3 q2 ((0 : Int64) + q1) (0 : Int32))), .val (.int (v4 q3 (((0 : Int64) + q1) + q2))), .unset, .unset, .unset, .unset] [(.long (4000000 : Int64))])) _
          refine XS.lstore X5.here hx rfl (hb hby at_37) rfl (l' := #[.val (.long q1), .second, .val (.long q2), .second, .val (.long q3), .second, .val (.ref b1), .val (.int (v3 q1 (0 : Int64) (0 : Int32))), .val (.int (v3 q2 ((0 : Int64) + q1) (0 : Int32))), .val (.int (v4 q3 (((0 : Int64) + q1) + q2))), .val (.long (4000000 : Int64)), .second, .unset, .unset]) rfl ?_
          show Steps p.tables e below (T5.setTop (mkF m 39 #[.val (.long q1), .second, .val (.long q2), .second, .val (.long q3), .second, .val (.ref b1), .val (.int (v3 q1 (0 : Int64) (0 : Int32))), .val (.int (v3 q2 ((0 : Int64) + q1) (0 : Int32))), .val (.int (v4 q3 (((0 : Int64) + q1) + q2))), .val (.long (4000000 : Int64)), .second, .unset, .unset] [])) _
          refine XS.lloadN X5.here hx rfl (hb hby at_39) rfl ?_
          show Steps p.tables e below (T5.setTop (mkF m 40 #[.val (.long q1), .second, .val (.long q2), .second, .val (.long q3), .second, .val (.ref b1), .val (.int (v3 q1 (0 : Int64) (0 : Int32))), .val (.int (v3 q2 ((0 : Int64) + q1) (0 : Int32))), .val (.int (v4 q3 (((0 : Int64) + q1) + q2))), .val (.long (4000000 : Int64)), .second, .unset, .unset] [(.long q1)])) _
          refine XS.lloadN X5.here hx rfl (hb hby at_40) rfl ?_
          show Steps p.tables e below (T5.setTop (mkF m 41 #[.val (.long q1), .second, .val (.long q2), .second, .val (.long q3), .second, .val (.ref b1), .val (.int (v3 q1 (0 : Int64) (0 : Int32))), .val (.int (v3 q2 ((0 : Int64) + q1) (0 : Int32))), .val (.int (v4 q3 (((0 : Int64) + q1) + q2))), .val (.long (4000000 : Int64)), .second, .unset, .unset] [(.long q2), (.long q1)])) _
          refine XS.ladd X5.here hx rfl (hb hby at_41) rfl ?_
          show Steps p.tables e below (T5.setTop (mkF m 42 #[.val (.long q1), .second, .val (.long q2), .second, .val (.long q3), .second, .val (.ref b1), .val (.int (v3 q1 (0 : Int64) (0 : Int32))), .val (.int (v3 q2 ((0 : Int64) + q1) (0 : Int32))), .val (.int (v4 q3 (((0 : Int64) + q1) + q2))), .val (.long (4000000 : Int64)), .second, .unset, .unset] [(.long (q1 + q2))])) _
          refine XS.lstore X5.here hx rfl (hb hby at_42) rfl (l' := #[.val (.long q1), .second, .val (.long q2), .second, .val (.long q3), .second, .val (.ref b1), .val (.int (v3 q1 (0 : Int64) (0 : Int32))), .val (.int (v3 q2 ((0 : Int64) + q1) (0 : Int32))), .val (.int (v4 q3 (((0 : Int64) + q1) + q2))), .val (.long (4000000 : Int64)), .second, .val (.long (q1 + q2)), .second]) rfl ?_
          show Steps p.tables e below (T5.setTop (mkF m 44 #[.val (.long q1), .second, .val (.long q2), .second, .val (.long q3), .second, .val (.ref b1), .val (.int (v3 q1 (0 : Int64) (0 : Int32))), .val (.int (v3 q2 ((0 : Int64) + q1) (0 : Int32))), .val (.int (v4 q3 (((0 : Int64) + q1) + q2))), .val (.long (4000000 : Int64)), .second, .val (.long (q1 + q2)), .second] [])) _
          refine XS.iload X5.here hx rfl (hb hby at_44) rfl ?_
          show Steps p.tables e below (T5.setTop (mkF m 46 #[.val (.long q1), .second, .val (.long q2), .second, .val (.long q3), .second, .val (.ref b1), .val (.int (v3 q1 (0 : Int64) (0 : Int32))), .val (.int (v3 q2 ((0 : Int64) + q1) (0 : Int32))), .val (.int (v4 q3 (((0 : Int64) + q1) + q2))), .val (.long (4000000 : Int64)), .second, .val (.long (q1 + q2)), .second] [(.int (v3 q1 (0 : Int64) (0 : Int32)))])) _
          refine sg46_7 _ ?_
          show Steps p.tables e below (T5.setTop (mkF m 58 #[.val (.long q1), .second, .val (.long q2), .second, .val (.long q3), .second, .val (.ref b1), .val (.int (v3 q1 (0 : Int64) (0 : Int32))), .val (.int (v3 q2 ((0 : Int64) + q1) (0 : Int32))), .val (.int (v4 q3 (((0 : Int64) + q1) + q2))), .val (.long (4000000 : Int64)), .second, .val (.long (q1 + q2)), .second] [(.int (j0_58_s0 q1 q2 q3)), (.int (v3 q1 (0 : Int64) (0 : Int32)))])) _
          refine XS.icmpNo X5.here hx rfl (hb hby at_58) rfl (teq hc58_8).2 ?_
          show Steps p.tables e below (T5.setTop (mkF m 61 #[.val (.long q1), .second, .val (.long q2), .second, .val (.long q3), .second, .val (.ref b1), .val (.int (v3 q1 (0 : Int64) (0 : Int32))), .val (.int (v3 q2 ((0 : Int64) + q1) (0 : Int32))), .val (.int (v4 q3 (((0 : Int64) + q1) + q2))), .val (.long (4000000 : Int64)), .second, .val (.long (q1 + q2)), .second] [])) _
          refine XS.iload X5.here hx rfl (hb hby at_61) rfl ?_
          show Steps p.tables e below (T5.setTop (mkF m 63 #[.val (.long q1), .second, .val (.long q2), .second, .val (.long q3), .second, .val (.ref b1), .val (.int (v3 q1 (0 : Int64) (0 : Int32))), .val (.int (v3 q2 ((0 : Int64) + q1) (0 : Int32))), .val (.int (v4 q3 (((0 : Int64) + q1) + q2))), .val (.long (4000000 : Int64)), .second, .val (.long (q1 + q2)), .second] [(.int (v3 q2 ((0 : Int64) + q1) (0 : Int32)))])) _
          refine sg63_10 _ ?_
          show Steps p.tables e below (T5.setTop (mkF m 76 #[.val (.long q1), .second, .val (.long q2), .second, .val (.long q3), .second, .val (.ref b1), .val (.int (v3 q1 (0 : Int64) (0 : Int32))), .val (.int (v3 q2 ((0 : Int64) + q1) (0 : Int32))), .val (.int (v4 q3 (((0 : Int64) + q1) + q2))), .val (.long (4000000 : Int64)), .second, .val (.long (q1 + q2)), .second] [(.int (j0_76_s0 q1 q2 q3)), (.int (v3 q2 ((0 : Int64) + q1) (0 : Int32)))])) _
          refine XS.icmpNo X5.here hx rfl (hb hby at_76) rfl (teq hc76_11).2 ?_
          show Steps p.tables e below (T5.setTop (mkF m 79 #[.val (.long q1), .second, .val (.long q2), .second, .val (.long q3), .second, .val (.ref b1), .val (.int (v3 q1 (0 : Int64) (0 : Int32))), .val (.int (v3 q2 ((0 : Int64) + q1) (0 : Int32))), .val (.int (v4 q3 (((0 : Int64) + q1) + q2))), .val (.long (4000000 : Int64)), .second, .val (.long (q1 + q2)), .second] [])) _
          refine XS.iload X5.here hx rfl (hb hby at_79) rfl ?_
          show Steps p.tables e below (T5.setTop (mkF m 81 #[.val (.long q1), .second, .val (.long q2), .second, .val (.long q3), .second, .val (.ref b1), .val (.int (v3 q1 (0 : Int64) (0 : Int32))), .val (.int (v3 q2 ((0 : Int64) + q1) (0 : Int32))), .val (.int (v4 q3 (((0 : Int64) + q1) + q2))), .val (.long (4000000 : Int64)), .second, .val (.long (q1 + q2)), .second] [(.int (v4 q3 (((0 : Int64) + q1) + q2)))])) _
          refine sg81_13 _ ?_
          show Steps p.tables e below (T5.setTop (mkF m 97 #[.val (.long q1), .second, .val (.long q2), .second, .val (.long q3), .second, .val (.ref b1), .val (.int (v3 q1 (0 : Int64) (0 : Int32))), .val (.int (v3 q2 ((0 : Int64) + q1) (0 : Int32))), .val (.int (v4 q3 (((0 : Int64) + q1) + q2))), .val (.long (4000000 : Int64)), .second, .val (.long (q1 + q2)), .second] [(.int (j0_97_s0 q1 q2 q3)), (.int (v4 q3 (((0 : Int64) + q1) + q2)))])) _
          refine XS.icmpYes X5.here hx rfl (pc0 := 97) (pc' := 104) rfl (hb hby at_97) rfl (feq hc97_14).2 (by decide) (by decide) ?_
          show Steps p.tables e below (T5.setTop (mkF m 104 #[.val (.long q1), .second, .val (.long q2), .second, .val (.long q3), .second, .val (.ref b1), .val (.int (v3 q1 (0 : Int64) (0 : Int32))), .val (.int (v3 q2 ((0 : Int64) + q1) (0 : Int32))), .val (.int (v4 q3 (((0 : Int64) + q1) + q2))), .val (.long (4000000 : Int64)), .second, .val (.long (q1 + q2)), .second] [])) _
          refine XS.iconst X5.here hx rfl (hb hby at_104) ?_
          show Steps p.tables e below (T5.setTop (mkF m 105 #[.val (.long q1), .second, .val (.long q2), .second, .val (.long q3), .second, .val (.ref b1), .val (.int (v3 q1 (0 : Int64) (0 : Int32))), .val (.int (v3 q2 ((0 : Int64) + q1) (0 : Int32))), .val (.int (v4 q3 (((0 : Int64) + q1) + q2))), .val (.long (4000000 : Int64)), .second, .val (.long (q1 + q2)), .second] [(.int (0 : Int32))])) _
          exact retN X5 hx (t := .boolean) Bd.returns (by simp) (hb hby at_105) hr
        · show Q0 Z q1 q2 q3 h0 n0 _ T5.heap _
          rw [e5]
          exact ⟨congrArg (fun z => some (Value.int z)) (show v0 q1 q2 q3 = (0 : Int32) from ((if_pos hc58_8).trans ((if_pos hc76_11).trans (if_neg hc97_14)))).symm, N5, trivial⟩
    · obtain ⟨fs, hr, hrun, hended, hW, hsame⟩ := X5.leave (v := some (.int (0 : Int32))) (fun h => by rw [Bd.returns] at h; cases h)
      refine ⟨_, _, pre0 _ ?_, hrun, hended, _, _, rfl, ?_, ⟨_, rfl⟩, hW, hsame.mono (by decide) (by decide)⟩
      · show Steps p.tables e below (s₁.setTop (mkF m 0 #[.val (.long q1), .second, .val (.long q2), .second, .val (.long q3), .second, .unset, .unset, .unset, .unset, .unset, .unset, .unset, .unset] [])) _
        refine st1 _ ?_
        show Steps p.tables e below (T1.setTop (mkF m 3 #[.val (.long q1), .second, .val (.long q2), .second, .val (.long q3), .second, .unset, .unset, .unset, .unset, .unset, .unset, .unset, .unset] [(.ref b1)])) _
        refine XS.dup X1.here hx rfl (hb hby at_3) rfl rfl ?_
        show Steps p.tables e below (T1.setTop (mkF m 4 #[.val (.long q1), .second, .val (.long q2), .second, .val (.long q3), .second, .unset, .unset, .unset, .unset, .unset, .unset, .unset, .unset] [(.ref b1), (.ref b1)])) _
        refine st2.trans ?_
        show Steps p.tables e below (T2.setTop (mkF m 7 #[.val (.long q1), .second, .val (.long q2), .second, .val (.long q3), .second, .unset, .unset, .unset, .unset, .unset, .unset, .unset, .unset] [(.ref b1)])) _
        refine XS.astore X2.here hx rfl (hb hby at_7) rfl rfl (l' := #[.val (.long q1), .second, .val (.long q2), .second, .val (.long q3), .second, .val (.ref b1), .unset, .unset, .unset, .unset, .unset, .unset, .unset]) rfl ?_
        show Steps p.tables e below (T2.setTop (mkF m 9 #[.val (.long q1), .second, .val (.long q2), .second, .val (.long q3), .second, .val (.ref b1), .unset, .unset, .unset, .unset, .unset, .unset, .unset] [])) _
        refine XS.aload X2.here hx rfl (hb hby at_9) rfl rfl ?_
        show Steps p.tables e below (T2.setTop (mkF m 11 #[.val (.long q1), .second, .val (.long q2), .second, .val (.long q3), .second, .val (.ref b1), .unset, .unset, .unset, .unset, .unset, .unset, .unset] [(.ref b1)])) _
        refine XS.lloadN X2.here hx rfl (hb hby at_11) rfl ?_
        show Steps p.tables e below (T2.setTop (mkF m 12 #[.val (.long q1), .second, .val (.long q2), .second, .val (.long q3), .second, .val (.ref b1), .unset, .unset, .unset, .unset, .unset, .unset, .unset] [(.long q1), (.ref b1)])) _
        refine st3.trans ?_
        show Steps p.tables e below (T3.setTop (mkF m 15 #[.val (.long q1), .second, .val (.long q2), .second, .val (.long q3), .second, .val (.ref b1), .unset, .unset, .unset, .unset, .unset, .unset, .unset] [(.int (v3 q1 (0 : Int64) (0 : Int32)))])) _
        refine XS.istore X3.here hx rfl (hb hby at_15) rfl (l' := #[.val (.long q1), .second, .val (.long q2), .second, .val (.long q3), .second, .val (.ref b1), .val (.int (v3 q1 (0 : Int64) (0 : Int32))), .unset, .unset, .unset, .unset, .unset, .unset]) rfl ?_
        show Steps p.tables e below (T3.setTop (mkF m 17 #[.val (.long q1), .second, .val (.long q2), .second, .val (.long q3), .second, .val (.ref b1), .val (.int (v3 q1 (0 : Int64) (0 : Int32))), .unset, .unset, .unset, .unset, .unset, .unset] [])) _
        refine XS.aload X3.here hx rfl (hb hby at_17) rfl rfl ?_
        show Steps p.tables e below (T3.setTop (mkF m 19 #[.val (.long q1), .second, .val (.long q2), .second, .val (.long q3), .second, .val (.ref b1), .val (.int (v3 q1 (0 : Int64) (0 : Int32))), .unset, .unset, .unset, .unset, .unset, .unset] [(.ref b1)])) _
        refine XS.lloadN X3.here hx rfl (hb hby at_19) rfl ?_
        show Steps p.tables e below (T3.setTop (mkF m 20 #[.val (.long q1), .second, .val (.long q2), .second, .val (.long q3), .second, .val (.ref b1), .val (.int (v3 q1 (0 : Int64) (0 : Int32))), .unset, .unset, .unset, .unset, .unset, .unset] [(.long q2), (.ref b1)])) _
        refine st4.trans ?_
        show Steps p.tables e below (T4.setTop (mkF m 23 #[.val (.long q1), .second, .val (.long q2), .second, .val (.long q3), .second, .val (.ref b1), .val (.int (v3 q1 (0 : Int64) (0 : Int32))), .unset, .unset, .unset, .unset, .unset, .unset] [(.int (v3 q2 ((0 : Int64) + q1) (0 : Int32)))])) _
        refine XS.istore X4.here hx rfl (hb hby at_23) rfl (l' := #[.val (.long q1), .second, .val (.long q2), .second, .val (.long q3), .second, .val (.ref b1), .val (.int (v3 q1 (0 : Int64) (0 : Int32))), .val (.int (v3 q2 ((0 : Int64) + q1) (0 : Int32))), .unset, .unset, .unset, .unset, .unset]) rfl ?_
        show Steps p.tables e below (T4.setTop (mkF m 25 #[.val (.long q1), .second, .val (.long q2), .second, .val (.long q3), .second, .val (.ref b1), .val (.int (v3 q1 (0 : Int64) (0 : Int32))), .val (.int (v3 q2 ((0 : Int64) + q1) (0 : Int32))), .unset, .unset, .unset, .unset, .unset] [])) _
        refine XS.aload X4.here hx rfl (hb hby at_25) rfl rfl ?_
        show Steps p.tables e below (T4.setTop (mkF m 27 #[.val (.long q1), .second, .val (.long q2), .second, .val (.long q3), .second, .val (.ref b1), .val (.int (v3 q1 (0 : Int64) (0 : Int32))), .val (.int (v3 q2 ((0 : Int64) + q1) (0 : Int32))), .unset, .unset, .unset, .unset, .unset] [(.ref b1)])) _
        refine XS.lload X4.here hx rfl (hb hby at_27) rfl ?_
        show Steps p.tables e below (T4.setTop (mkF m 29 #[.val (.long q1), .second, .val (.long q2), .second, .val (.long q3), .second, .val (.ref b1), .val (.int (v3 q1 (0 : Int64) (0 : Int32))), .val (.int (v3 q2 ((0 : Int64) + q1) (0 : Int32))), .unset, .unset, .unset, .unset, .unset] [(.long q3), (.ref b1)])) _
        refine st5.trans ?_
        show Steps p.tables e below (T5.setTop (mkF m 32 #[.val (.long q1), .second, .val (.long q2), .second, .val (.long q3), .second, .val (.ref b1), .val (.int (v3 q1 (0 : Int64) (0 : Int32))), .val (.int (v3 q2 ((0 : Int64) + q1) (0 : Int32))), .unset, .unset, .unset, .unset, .unset] [(.int (v4 q3 (((0 : Int64) + q1) + q2)))])) _
        refine XS.istore X5.here hx rfl (hb hby at_32) rfl (l' := #[.val (.long q1), .second, .val (.long q2), .second, .val (.long q3), .second, .val (.ref b1), .val (.int (v3 q1 (0 : Int64) (0 : Int32))), .val (.int (v3 q2 ((0 : Int64) + q1) (0 : Int32))), .val (.int (v4 q3 (((0 : Int64) + q1) + q2))), .unset, .unset, .unset, .unset]) rfl ?_
        show Steps p.tables e below (T5.setTop (mkF m 34 #[.val (.long q1), .second, .val (.long q2), .second, .val (.long q3), .second, .val (.ref b1), .val (.int (v3 q1 (0 : Int64) (0 : Int32))), .val (.int (v3 q2 ((0 : Int64) + q1) (0 : Int32))), .val (.int (v4 q3 (((0 : Int64) + q1) + q2))), .unset, .unset, .unset, .unset] [])) _
        refine X5.ldc2Long hx hown (mvT hZ (hw _ (List.mem_of_getElem? (i := 25) rfl))) (g := (mkF m 34 #[.val (.long q1), .second, .val (.long q2), .second, .val (.long q3), .second, .val (.ref b1), .val (.int (v3 q1 (0 : Int64) (0 : Int32))), .val (.int (v3 q2 ((0 : Int64) + q1) (0 : Int32))), .val (.int (v4 q3 (((0 : Int64) + q1) + q2))), .unset, .unset, .unset, .unset] [])) rfl (hb hby at_34) _ ?_
        show Steps p.tables e below (T5.setTop (mkF m 37 #[.val (.long q1), .second, .val (.long q2), .second, .val (.long q3), .second, .val (.ref b1), .val (.int (v3 q1 (0 : Int64) (0 : Int32))), .val (.int (v3 q2 ((0 : Int64) + q1) (0 : Int32))), .val (.int (v4 q3 (((0 : Int64) + q1) + q2))), .unset, .unset, .unset, .unset] [(.long (4000000 : Int64))])) _
        refine XS.lstore X5.here hx rfl (hb hby at_37) rfl (l' := #[.val (.long q1), .second, .val (.long q2), .second, .val (.long q3), .second, .val (.ref b1), .val (.int (v3 q1 (0 : Int64) (0 : Int32))), .val (.int (v3 q2 ((0 : Int64) + q1) (0 : Int32))), .val (.int (v4 q3 (((0 : Int64) + q1) + q2))), .val (.long (4000000 : Int64)), .second, .unset, .unset]) rfl ?_
        show Steps p.tables e below (T5.setTop (mkF m 39 #[.val (.long q1), .second, .val (.long q2), .second, .val (.long q3), .second, .val (.ref b1), .val (.int (v3 q1 (0 : Int64) (0 : Int32))), .val (.int (v3 q2 ((0 : Int64) + q1) (0 : Int32))), .val (.int (v4 q3 (((0 : Int64) + q1) + q2))), .val (.long (4000000 : Int64)), .second, .unset, .unset] [])) _
        refine XS.lloadN X5.here hx rfl (hb hby at_39) rfl ?_
        show Steps p.tables e below (T5.setTop (mkF m 40 #[.val (.long q1), .second, .val (.long q2), .second, .val (.long q3), .second, .val (.ref b1), .val (.int (v3 q1 (0 : Int64) (0 : Int32))), .val (.int (v3 q2 ((0 : Int64) + q1) (0 : Int32))), .val (.int (v4 q3 (((0 : Int64) + q1) + q2))), .val (.long (4000000 : Int64)), .second, .unset, .unset] [(.long q1)])) _
        refine XS.lloadN X5.here hx rfl (hb hby at_40) rfl ?_
        show Steps p.tables e below (T5.setTop (mkF m 41 #[.val (.long q1), .second, .val (.long q2), .second, .val (.long q3), .second, .val (.ref b1), .val (.int (v3 q1 (0 : Int64) (0 : Int32))), .val (.int (v3 q2 ((0 : Int64) + q1) (0 : Int32))), .val (.int (v4 q3 (((0 : Int64) + q1) + q2))), .val (.long (4000000 : Int64)), .second, .unset, .unset] [(.long q2), (.long q1)])) _
        refine XS.ladd X5.here hx rfl (hb hby at_41) rfl ?_
        show Steps p.tables e below (T5.setTop (mkF m 42 #[.val (.long q1), .second, .val (.long q2), .second, .val (.long q3), .second, .val (.ref b1), .val (.int (v3 q1 (0 : Int64) (0 : Int32))), .val (.int (v3 q2 ((0 : Int64) + q1) (0 : Int32))), .val (.int (v4 q3 (((0 : Int64) + q1) + q2))), .val (.long (4000000 : Int64)), .second, .unset, .unset] [(.long (q1 + q2))])) _
        refine XS.lstore X5.here hx rfl (hb hby at_42) rfl (l' := #[.val (.long q1), .second, .val (.long q2), .second, .val (.long q3), .second, .val (.ref b1), .val (.int (v3 q1 (0 : Int64) (0 : Int32))), .val (.int (v3 q2 ((0 : Int64) + q1) (0 : Int32))), .val (.int (v4 q3 (((0 : Int64) + q1) + q2))), .val (.long (4000000 : Int64)), .second, .val (.long (q1 + q2)), .second]) rfl ?_
        show Steps p.tables e below (T5.setTop (mkF m 44 #[.val (.long q1), .second, .val (.long q2), .second, .val (.long q3), .second, .val (.ref b1), .val (.int (v3 q1 (0 : Int64) (0 : Int32))), .val (.int (v3 q2 ((0 : Int64) + q1) (0 : Int32))), .val (.int (v4 q3 (((0 : Int64) + q1) + q2))), .val (.long (4000000 : Int64)), .second, .val (.long (q1 + q2)), .second] [])) _
        refine XS.iload X5.here hx rfl (hb hby at_44) rfl ?_
        show Steps p.tables e below (T5.setTop (mkF m 46 #[.val (.long q1), .second, .val (.long q2), .second, .val (.long q3), .second, .val (.ref b1), .val (.int (v3 q1 (0 : Int64) (0 : Int32))), .val (.int (v3 q2 ((0 : Int64) + q1) (0 : Int32))), .val (.int (v4 q3 (((0 : Int64) + q1) + q2))), .val (.long (4000000 : Int64)), .second, .val (.long (q1 + q2)), .second] [(.int (v3 q1 (0 : Int64) (0 : Int32)))])) _
        refine sg46_7 _ ?_
        show Steps p.tables e below (T5.setTop (mkF m 58 #[.val (.long q1), .second, .val (.long q2), .second, .val (.long q3), .second, .val (.ref b1), .val (.int (v3 q1 (0 : Int64) (0 : Int32))), .val (.int (v3 q2 ((0 : Int64) + q1) (0 : Int32))), .val (.int (v4 q3 (((0 : Int64) + q1) + q2))), .val (.long (4000000 : Int64)), .second, .val (.long (q1 + q2)), .second] [(.int (j0_58_s0 q1 q2 q3)), (.int (v3 q1 (0 : Int64) (0 : Int32)))])) _
        refine XS.icmpNo X5.here hx rfl (hb hby at_58) rfl (teq hc58_8).2 ?_
        show Steps p.tables e below (T5.setTop (mkF m 61 #[.val (.long q1), .second, .val (.long q2), .second, .val (.long q3), .second, .val (.ref b1), .val (.int (v3 q1 (0 : Int64) (0 : Int32))), .val (.int (v3 q2 ((0 : Int64) + q1) (0 : Int32))), .val (.int (v4 q3 (((0 : Int64) + q1) + q2))), .val (.long (4000000 : Int64)), .second, .val (.long (q1 + q2)), .second] [])) _
        refine XS.iload X5.here hx rfl (hb hby at_61) rfl ?_
        show Steps p.tables e below (T5.setTop (mkF m 63 #[.val (.long q1), .second, .val (.long q2), .second, .val (.long q3), .second, .val (.ref b1), .val (.int (v3 q1 (0 : Int64) (0 : Int32))), .val (.int (v3 q2 ((0 : Int64) + q1) (0 : Int32))), .val (.int (v4 q3 (((0 : Int64) + q1) + q2))), .val (.long (4000000 : Int64)), .second, .val (.long (q1 + q2)), .second] [(.int (v3 q2 ((0 : Int64) + q1) (0 : Int32)))])) _
        refine sg63_10 _ ?_
        show Steps p.tables e below (T5.setTop (mkF m 76 #[.val (.long q1), .second, .val (.long q2), .second, .val (.long q3), .second, .val (.ref b1), .val (.int (v3 q1 (0 : Int64) (0 : Int32))), .val (.int (v3 q2 ((0 : Int64) + q1) (0 : Int32))), .val (.int (v4 q3 (((0 : Int64) + q1) + q2))), .val (.long (4000000 : Int64)), .second, .val (.long (q1 + q2)), .second] [(.int (j0_76_s0 q1 q2 q3)), (.int (v3 q2 ((0 : Int64) + q1) (0 : Int32)))])) _
        refine XS.icmpYes X5.here hx rfl (pc0 := 76) (pc' := 104) rfl (hb hby at_76) rfl (feq hc76_11).2 (by decide) (by decide) ?_
        show Steps p.tables e below (T5.setTop (mkF m 104 #[.val (.long q1), .second, .val (.long q2), .second, .val (.long q3), .second, .val (.ref b1), .val (.int (v3 q1 (0 : Int64) (0 : Int32))), .val (.int (v3 q2 ((0 : Int64) + q1) (0 : Int32))), .val (.int (v4 q3 (((0 : Int64) + q1) + q2))), .val (.long (4000000 : Int64)), .second, .val (.long (q1 + q2)), .second] [])) _
        refine XS.iconst X5.here hx rfl (hb hby at_104) ?_
        show Steps p.tables e below (T5.setTop (mkF m 105 #[.val (.long q1), .second, .val (.long q2), .second, .val (.long q3), .second, .val (.ref b1), .val (.int (v3 q1 (0 : Int64) (0 : Int32))), .val (.int (v3 q2 ((0 : Int64) + q1) (0 : Int32))), .val (.int (v4 q3 (((0 : Int64) + q1) + q2))), .val (.long (4000000 : Int64)), .second, .val (.long (q1 + q2)), .second] [(.int (0 : Int32))])) _
        exact retN X5 hx (t := .boolean) Bd.returns (by simp) (hb hby at_105) hr
      · show Q0 Z q1 q2 q3 h0 n0 _ T5.heap _
        rw [e5]
        exact ⟨congrArg (fun z => some (Value.int z)) (show v0 q1 q2 q3 = (0 : Int32) from ((if_pos hc58_8).trans (if_neg hc76_11))).symm, N5, trivial⟩
  · obtain ⟨fs, hr, hrun, hended, hW, hsame⟩ := X5.leave (v := some (.int (0 : Int32))) (fun h => by rw [Bd.returns] at h; cases h)
    refine ⟨_, _, pre0 _ ?_, hrun, hended, _, _, rfl, ?_, ⟨_, rfl⟩, hW, hsame.mono (by decide) (by decide)⟩
    · show Steps p.tables e below (s₁.setTop (mkF m 0 #[.val (.long q1), .second, .val (.long q2), .second, .val (.long q3), .second, .unset, .unset, .unset, .unset, .unset, .unset, .unset, .unset] [])) _
      refine st1 _ ?_
      show Steps p.tables e below (T1.setTop (mkF m 3 #[.val (.long q1), .second, .val (.long q2), .second, .val (.long q3), .second, .unset, .unset, .unset, .unset, .unset, .unset, .unset, .unset] [(.ref b1)])) _
      refine XS.dup X1.here hx rfl (hb hby at_3) rfl rfl ?_
      show Steps p.tables e below (T1.setTop (mkF m 4 #[.val (.long q1), .second, .val (.long q2), .second, .val (.long q3), .second, .unset, .unset, .unset, .unset, .unset, .unset, .unset, .unset] [(.ref b1), (.ref b1)])) _
      refine st2.trans ?_
      show Steps p.tables e below (T2.setTop (mkF m 7 #[.val (.long q1), .second, .val (.long q2), .second, .val (.long q3), .second, .unset, .unset, .unset, .unset, .unset, .unset, .unset, .unset] [(.ref b1)])) _
      refine XS.astore X2.here hx rfl (hb hby at_7) rfl rfl (l' := #[.val (.long q1), .second, .val (.long q2), .second, .val (.long q3), .second, .val (.ref b1), .unset, .unset, .unset, .unset, .unset, .unset, .unset]) rfl ?_
      show Steps p.tables e below (T2.setTop (mkF m 9 #[.val (.long q1), .second, .val (.long q2), .second, .val (.long q3), .second, .val (.ref b1), .unset, .unset, .unset, .unset, .unset, .unset, .unset] [])) _
      refine XS.aload X2.here hx rfl (hb hby at_9) rfl rfl ?_
      show Steps p.tables e below (T2.setTop (mkF m 11 #[.val (.long q1), .second, .val (.long q2), .second, .val (.long q3), .second, .val (.ref b1), .unset, .unset, .unset, .unset, .unset, .unset, .unset] [(.ref b1)])) _
      refine XS.lloadN X2.here hx rfl (hb hby at_11) rfl ?_
      show Steps p.tables e below (T2.setTop (mkF m 12 #[.val (.long q1), .second, .val (.long q2), .second, .val (.long q3), .second, .val (.ref b1), .unset, .unset, .unset, .unset, .unset, .unset, .unset] [(.long q1), (.ref b1)])) _
      refine st3.trans ?_
      show Steps p.tables e below (T3.setTop (mkF m 15 #[.val (.long q1), .second, .val (.long q2), .second, .val (.long q3), .second, .val (.ref b1), .unset, .unset, .unset, .unset, .unset, .unset, .unset] [(.int (v3 q1 (0 : Int64) (0 : Int32)))])) _
      refine XS.istore X3.here hx rfl (hb hby at_15) rfl (l' := #[.val (.long q1), .second, .val (.long q2), .second, .val (.long q3), .second, .val (.ref b1), .val (.int (v3 q1 (0 : Int64) (0 : Int32))), .unset, .unset, .unset, .unset, .unset, .unset]) rfl ?_
      show Steps p.tables e below (T3.setTop (mkF m 17 #[.val (.long q1), .second, .val (.long q2), .second, .val (.long q3), .second, .val (.ref b1), .val (.int (v3 q1 (0 : Int64) (0 : Int32))), .unset, .unset, .unset, .unset, .unset, .unset] [])) _
      refine XS.aload X3.here hx rfl (hb hby at_17) rfl rfl ?_
      show Steps p.tables e below (T3.setTop (mkF m 19 #[.val (.long q1), .second, .val (.long q2), .second, .val (.long q3), .second, .val (.ref b1), .val (.int (v3 q1 (0 : Int64) (0 : Int32))), .unset, .unset, .unset, .unset, .unset, .unset] [(.ref b1)])) _
      refine XS.lloadN X3.here hx rfl (hb hby at_19) rfl ?_
      show Steps p.tables e below (T3.setTop (mkF m 20 #[.val (.long q1), .second, .val (.long q2), .second, .val (.long q3), .second, .val (.ref b1), .val (.int (v3 q1 (0 : Int64) (0 : Int32))), .unset, .unset, .unset, .unset, .unset, .unset] [(.long q2), (.ref b1)])) _
      refine st4.trans ?_
      show Steps p.tables e below (T4.setTop (mkF m 23 #[.val (.long q1), .second, .val (.long q2), .second, .val (.long q3), .second, .val (.ref b1), .val (.int (v3 q1 (0 : Int64) (0 : Int32))), .unset, .unset, .unset, .unset, .unset, .unset] [(.int (v3 q2 ((0 : Int64) + q1) (0 : Int32)))])) _
      refine XS.istore X4.here hx rfl (hb hby at_23) rfl (l' := #[.val (.long q1), .second, .val (.long q2), .second, .val (.long q3), .second, .val (.ref b1), .val (.int (v3 q1 (0 : Int64) (0 : Int32))), .val (.int (v3 q2 ((0 : Int64) + q1) (0 : Int32))), .unset, .unset, .unset, .unset, .unset]) rfl ?_
      show Steps p.tables e below (T4.setTop (mkF m 25 #[.val (.long q1), .second, .val (.long q2), .second, .val (.long q3), .second, .val (.ref b1), .val (.int (v3 q1 (0 : Int64) (0 : Int32))), .val (.int (v3 q2 ((0 : Int64) + q1) (0 : Int32))), .unset, .unset, .unset, .unset, .unset] [])) _
      refine XS.aload X4.here hx rfl (hb hby at_25) rfl rfl ?_
      show Steps p.tables e below (T4.setTop (mkF m 27 #[.val (.long q1), .second, .val (.long q2), .second, .val (.long q3), .second, .val (.ref b1), .val (.int (v3 q1 (0 : Int64) (0 : Int32))), .val (.int (v3 q2 ((0 : Int64) + q1) (0 : Int32))), .unset, .unset, .unset, .unset, .unset] [(.ref b1)])) _
      refine XS.lload X4.here hx rfl (hb hby at_27) rfl ?_
      show Steps p.tables e below (T4.setTop (mkF m 29 #[.val (.long q1), .second, .val (.long q2), .second, .val (.long q3), .second, .val (.ref b1), .val (.int (v3 q1 (0 : Int64) (0 : Int32))), .val (.int (v3 q2 ((0 : Int64) + q1) (0 : Int32))), .unset, .unset, .unset, .unset, .unset] [(.long q3), (.ref b1)])) _
      refine st5.trans ?_
      show Steps p.tables e below (T5.setTop (mkF m 32 #[.val (.long q1), .second, .val (.long q2), .second, .val (.long q3), .second, .val (.ref b1), .val (.int (v3 q1 (0 : Int64) (0 : Int32))), .val (.int (v3 q2 ((0 : Int64) + q1) (0 : Int32))), .unset, .unset, .unset, .unset, .unset] [(.int (v4 q3 (((0 : Int64) + q1) + q2)))])) _
      refine XS.istore X5.here hx rfl (hb hby at_32) rfl (l' := #[.val (.long q1), .second, .val (.long q2), .second, .val (.long q3), .second, .val (.ref b1), .val (.int (v3 q1 (0 : Int64) (0 : Int32))), .val (.int (v3 q2 ((0 : Int64) + q1) (0 : Int32))), .val (.int (v4 q3 (((0 : Int64) + q1) + q2))), .unset, .unset, .unset, .unset]) rfl ?_
      show Steps p.tables e below (T5.setTop (mkF m 34 #[.val (.long q1), .second, .val (.long q2), .second, .val (.long q3), .second, .val (.ref b1), .val (.int (v3 q1 (0 : Int64) (0 : Int32))), .val (.int (v3 q2 ((0 : Int64) + q1) (0 : Int32))), .val (.int (v4 q3 (((0 : Int64) + q1) + q2))), .unset, .unset, .unset, .unset] [])) _
      refine X5.ldc2Long hx hown (mvT hZ (hw _ (List.mem_of_getElem? (i := 25) rfl))) (g := (mkF m 34 #[.val (.long q1), .second, .val (.long q2), .second, .val (.long q3), .second, .val (.ref b1), .val (.int (v3 q1 (0 : Int64) (0 : Int32))), .val (.int (v3 q2 ((0 : Int64) + q1) (0 : Int32))), .val (.int (v4 q3 (((0 : Int64) + q1) + q2))), .unset, .unset, .unset, .unset] [])) rfl (hb hby at_34) _ ?_
      show Steps p.tables e below (T5.setTop (mkF m 37 #[.val (.long q1), .second, .val (.long q2), .second, .val (.long q3), .second, .val (.ref b1), .val (.int (v3 q1 (0 : Int64) (0 : Int32))), .val (.int (v3 q2 ((0 : Int64) + q1) (0 : Int32))), .val (.int (v4 q3 (((0 : Int64) + q1) + q2))), .unset, .unset, .unset, .unset] [(.long (4000000 : Int64))])) _
      refine XS.lstore X5.here hx rfl (hb hby at_37) rfl (l' := #[.val (.long q1), .second, .val (.long q2), .second, .val (.long q3), .second, .val (.ref b1), .val (.int (v3 q1 (0 : Int64) (0 : Int32))), .val (.int (v3 q2 ((0 : Int64) + q1) (0 : Int32))), .val (.int (v4 q3 (((0 : Int64) + q1) + q2))), .val (.long (4000000 : Int64)), .second, .unset, .unset]) rfl ?_
      show Steps p.tables e below (T5.setTop (mkF m 39 #[.val (.long q1), .second, .val (.long q2), .second, .val (.long q3), .second, .val (.ref b1), .val (.int (v3 q1 (0 : Int64) (0 : Int32))), .val (.int (v3 q2 ((0 : Int64) + q1) (0 : Int32))), .val (.int (v4 q3 (((0 : Int64) + q1) + q2))), .val (.long (4000000 : Int64)), .second, .unset, .unset] [])) _
      refine XS.lloadN X5.here hx rfl (hb hby at_39) rfl ?_
      show Steps p.tables e below (T5.setTop (mkF m 40 #[.val (.long q1), .second, .val (.long q2), .second, .val (.long q3), .second, .val (.ref b1), .val (.int (v3 q1 (0 : Int64) (0 : Int32))), .val (.int (v3 q2 ((0 : Int64) + q1) (0 : Int32))), .val (.int (v4 q3 (((0 : Int64) + q1) + q2))), .val (.long (4000000 : Int64)), .second, .unset, .unset] [(.long q1)])) _
      refine XS.lloadN X5.here hx rfl (hb hby at_40) rfl ?_
      show Steps p.tables e below (T5.setTop (mkF m 41 #[.val (.long q1), .second, .val (.long q2), .second, .val (.long q3), .second, .val (.ref b1), .val (.int (v3 q1 (0 : Int64) (0 : Int32))), .val (.int (v3 q2 ((0 : Int64) + q1) (0 : Int32))), .val (.int (v4 q3 (((0 : Int64) + q1) + q2))), .val (.long (4000000 : Int64)), .second, .unset, .unset] [(.long q2), (.long q1)])) _
      refine XS.ladd X5.here hx rfl (hb hby at_41) rfl ?_
      show Steps p.tables e below (T5.setTop (mkF m 42 #[.val (.long q1), .second, .val (.long q2), .second, .val (.long q3), .second, .val (.ref b1), .val (.int (v3 q1 (0 : Int64) (0 : Int32))), .val (.int (v3 q2 ((0 : Int64) + q1) (0 : Int32))), .val (.int (v4 q3 (((0 : Int64) + q1) + q2))), .val (.long (4000000 : Int64)), .second, .unset, .unset] [(.long (q1 + q2))])) _
      refine XS.lstore X5.here hx rfl (hb hby at_42) rfl (l' := #[.val (.long q1), .second, .val (.long q2), .second, .val (.long q3), .second, .val (.ref b1), .val (.int (v3 q1 (0 : Int64) (0 : Int32))), .val (.int (v3 q2 ((0 : Int64) + q1) (0 : Int32))), .val (.int (v4 q3 (((0 : Int64) + q1) + q2))), .val (.long (4000000 : Int64)), .second, .val (.long (q1 + q2)), .second]) rfl ?_
      show Steps p.tables e below (T5.setTop (mkF m 44 #[.val (.long q1), .second, .val (.long q2), .second, .val (.long q3), .second, .val (.ref b1), .val (.int (v3 q1 (0 : Int64) (0 : Int32))), .val (.int (v3 q2 ((0 : Int64) + q1) (0 : Int32))), .val (.int (v4 q3 (((0 : Int64) + q1) + q2))), .val (.long (4000000 : Int64)), .second, .val (.long (q1 + q2)), .second] [])) _
      refine XS.iload X5.here hx rfl (hb hby at_44) rfl ?_
      show Steps p.tables e below (T5.setTop (mkF m 46 #[.val (.long q1), .second, .val (.long q2), .second, .val (.long q3), .second, .val (.ref b1), .val (.int (v3 q1 (0 : Int64) (0 : Int32))), .val (.int (v3 q2 ((0 : Int64) + q1) (0 : Int32))), .val (.int (v4 q3 (((0 : Int64) + q1) + q2))), .val (.long (4000000 : Int64)), .second, .val (.long (q1 + q2)), .second] [(.int (v3 q1 (0 : Int64) (0 : Int32)))])) _
      refine sg46_7 _ ?_
      show Steps p.tables e below (T5.setTop (mkF m 58 #[.val (.long q1), .second, .val (.long q2), .second, .val (.long q3), .second, .val (.ref b1), .val (.int (v3 q1 (0 : Int64) (0 : Int32))), .val (.int (v3 q2 ((0 : Int64) + q1) (0 : Int32))), .val (.int (v4 q3 (((0 : Int64) + q1) + q2))), .val (.long (4000000 : Int64)), .second, .val (.long (q1 + q2)), .second] [(.int (j0_58_s0 q1 q2 q3)), (.int (v3 q1 (0 : Int64) (0 : Int32)))])) _
      refine XS.icmpYes X5.here hx rfl (pc0 := 58) (pc' := 104) rfl (hb hby at_58) rfl (feq hc58_8).2 (by decide) (by decide) ?_
      show Steps p.tables e below (T5.setTop (mkF m 104 #[.val (.long q1), .second, .val (.long q2), .second, .val (.long q3), .second, .val (.ref b1), .val (.int (v3 q1 (0 : Int64) (0 : Int32))), .val (.int (v3 q2 ((0 : Int64) + q1) (0 : Int32))), .val (.int (v4 q3 (((0 : Int64) + q1) + q2))), .val (.long (4000000 : Int64)), .second, .val (.long (q1 + q2)), .second] [])) _
      refine XS.iconst X5.here hx rfl (hb hby at_104) ?_
      show Steps p.tables e below (T5.setTop (mkF m 105 #[.val (.long q1), .second, .val (.long q2), .second, .val (.long q3), .second, .val (.ref b1), .val (.int (v3 q1 (0 : Int64) (0 : Int32))), .val (.int (v3 q2 ((0 : Int64) + q1) (0 : Int32))), .val (.int (v4 q3 (((0 : Int64) + q1) + q2))), .val (.long (4000000 : Int64)), .second, .val (.long (q1 + q2)), .second] [(.int (0 : Int32))])) _
      exact retN X5 hx (t := .boolean) Bd.returns (by simp) (hb hby at_105) hr
    · show Q0 Z q1 q2 q3 h0 n0 _ T5.heap _
      rw [e5]
      exact ⟨congrArg (fun z => some (Value.int z)) (show v0 q1 q2 q3 = (0 : Int32) from (if_neg hc58_8)).symm, N5, trivial⟩
theorem own_plain (q1 q2 q3 : Int64) : v0 q1 q2 q3 = 1 := by
  have e0 : ¬ (100000 : Int32) < (0 : Int32) := by decide
  have h1 : v3 q1 (0 : Int64) (0 : Int32) = j0_58_s0 q1 q2 q3 := by
    show (if (100000 : Int32) < (0 : Int32) then (0 : Int32) else (if (0 : Int32) < (lcmpW ((0 : Int64) + q1) (4000000 : Int64)) then (0 : Int32) else (1 : Int32))) = _
    rw [if_neg e0, Int64.zero_add]; rfl
  have h2 : v3 q2 ((0 : Int64) + q1) (0 : Int32) = j0_76_s0 q1 q2 q3 := by
    show (if (100000 : Int32) < (0 : Int32) then (0 : Int32) else (if (0 : Int32) < (lcmpW (((0 : Int64) + q1) + q2) (4000000 : Int64)) then (0 : Int32) else (1 : Int32))) = _
    rw [if_neg e0, Int64.zero_add]; rfl
  have h3 : v4 q3 (((0 : Int64) + q1) + q2) = j0_97_s0 q1 q2 q3 := by rw [Int64.zero_add]; rfl
  exact (if_pos h1).trans ((if_pos h2).trans (if_pos h3))

set_option maxRecDepth 65536 in
set_option maxHeartbeats 40000000 in
theorem comes_1 {Post : Tables → Env → Array Value → State → Outcome → State → Prop} (hpost : ∀ tb e args s v u, (limb_1_1.after args s (.returned v) u = true ∧ limb_1_2.after args s (.returned v) u = true ∧ True) → FrameEnd s (.returned v) u (Jvm.fieldLocs frame_1_writes args s ++ Jvm.arrayLocs frame_1_arrays args s ++ Jvm.staticLocs frame_1_statics s) 16 128 → Post tb e args s (.returned v) u) :
    ArmFor flags0 classFile x code maxLocals ret World_1 tables_1 room_1 Calls_1 rest_1 Pre_1 Post := by
  intro l hfl _ _ p e ha hc hk s m args below hf hA hF happ hP
  obtain ⟨hcalls, hrest, hpre⟩ := hP
  obtain ⟨-, -, -, hnamed, -, -, -, hat⟩ := (Spec.applies_iff hf).mp happ
  obtain ⟨hg, hn⟩ := and_e (Cond.before_iff.mp (show (Jvm.Cond.and given_1 narrow_1).before args s = true from hpre))
  obtain ⟨gc, gr0⟩ := and_e hg
  obtain ⟨ga0, gr1⟩ := and_e gr0
  obtain ⟨ga1, gr2⟩ := and_e gr1
  obtain ⟨w0, w1, w2, rfl⟩ : ∃ w0 w1 w2 : Value, args = #[w0, w1, w2] := by
    have hs : args.size = 3 := by simpa [Cond.value, given_1] using gc
    obtain ⟨L⟩ := args
    match L, hs with
    | [w0, w1, w2], _ => exact ⟨w0, w1, w2, rfl⟩
  have hw := fun d (hd : d ∈ tables_1) => atoms_spec (ws := Jvm.Cond.code x code maxLocals ret :: tables_1) hat d (List.mem_cons_of_mem _ hd)
  obtain ⟨i0, ei0⟩ := isL_v ga0
  obtain rfl : w0 = (.long i0) := Option.some.inj ei0
  obtain ⟨i1, ei1⟩ := isL_v ga1
  obtain rfl : w1 = (.long i1) := Option.some.inj ei1
  obtain ⟨i2, ei2⟩ := isL_v gr2
  obtain rfl : w2 = (.long i2) := Option.some.inj ei2
  obtain ⟨n, o, h1, h2, h3, _, L, rfl, ⟨rfl, N, -⟩, hq⟩ := rm0 l s _ hw tables_1 i0 i1 i2 s.heap s.heap.size (Nat.le_refl _) p e ha hc hk s m _ below hf ((Spec.applies_iff_loose hf).mp happ).1 ⟨rfl, State.Warmed39.refl s, rfl⟩ trivial
  have hv : v0 i0 i1 i2 = 1 := own_plain i0 i1 i2
  rw [hv] at h3 hq
  refine ⟨n, _, h1, h2, h3, hpost _ _ _ _ _ _ ⟨Cond.after_iff.mpr rfl, Cond.after_iff.mpr (eq_i res_at (Term.int_eval (1)) rfl), trivial⟩ ⟨hq.1, hq.2.1, (hq.2.2.sift fun y hy => Or.inr (N y hy)).mono (by decide) (by decide)⟩⟩
theorem main_1_1 : Claimed_1_1 := comes_1 fun _ _ _ _ _ _ h hF => ⟨h.1, hF⟩
theorem main_1_2 : Claimed_1_2 := comes_1 fun _ _ _ _ _ _ h hF => ⟨h.2.1, hF⟩
end Jvm.Pilot.@@N@@
namespace Jvm.Pilot.@@N@@
open Jvm Jvm.ClassFile Sem Op Lib Jvm.Free Jvm.Stand Jvm.Pilot.@@N@@.Jvm.D
/-! MADE BY PROGRAM (witnessworld.py) out of the Statement's table words and the real class files: 9 classes; the members and pool entries that the words name. The judged class is class 1, her method 1. -/
namespace start1
open Jvm.ClassFile
def u (s : String) : CpInfo := .utf8 (stringToUtf16 s)
/-- a pool by its gaps: so many unusable entries, then the entry; so many at the end -/
def gap : Nat → List CpInfo → List CpInfo
  | 0, r => r
  | n + 1, r => .unusable :: gap n r
def poolList (es : List (Nat × CpInfo)) (last : Nat) : List CpInfo := es.foldr (fun e r => gap e.1 (e.2 :: r)) (gap last [])
def pool (es : List (Nat × CpInfo)) (last : Nat) : Array CpInfo := ⟨poolList es last⟩
def fileOf (pool : Array CpInfo) (this : Nat) (attrs : Array Attribute := #[]) (ms : Array MethodInfo := #[]) (fl : Nat := 33) (sup : Nat := 0) (ifs : Array Nat := #[]) (fds : Array FieldInfo := #[]) : ClassFile where
  minorVersion := 0
  majorVersion := 65
  constantPool := pool
  accessFlags := fl
  thisClass := this
  superClass := sup
  interfaces := ifs
  fields := fds
  methods := ms
  attributes := attrs
def plain (name : String) (sup : Option ClassId) : Class where
  name := name
  kind := .ordinary
  loader := none
  accessFlags := 33
  super := sup
  interfaces := #[]
  cf := none
  fields := #[]
  methods := #[]
  instanceTypes := #[]
  staticTypes := #[]
  resolved := #[]
  callSites := []
  init := .initialized
  statics := none
  mirror := none

def pool0 : Array CpInfo := pool [(5, u "<init>"), (0, u "()V"), (1, .class_ 10), (1, u "java/lang/Object")] 113

def k0c0 : Code := { maxStack := 0, maxLocals := 1, code := object_method_1_code, exceptionTable := #[], attributes := #[] }
def k0m0 : Method := { name := "<init>", desc := "()V", sig := { parameters := [], returnType := none }, accessFlags := 1, code := some k0c0 }
/-- java/lang/Object -/
def k0 : Class := { plain "java/lang/Object" none with
  accessFlags := 33
  interfaces := #[]
  cf := some (fileOf pool0 8 #[] #[{ accessFlags := 1, nameIndex := 5, descriptorIndex := 6, attributes := #[] }] 33 0 #[] #[])
  fields := #[]
  methods := #[k0m0]
  instanceTypes := #[]
  staticTypes := #[]
  resolved := Array.replicate 124 none
  statics := none }

def pool1 : Array CpInfo := pool [(2, .class_ 4), (0, .nameAndType 5 6), (0, u "java/lang/Object"), (0, u "<init>"), (0, u "()V"), (0, .class_ 8), (0, u "com/example/travaso/travaso/model/PicoSize"), (0, .methodref 7 3), (0, .methodref 7 11), (0, .nameAndType 12 13), (0, u "text"), (0, u "(J)Z"), (0, .methodref 7 15), (0, .nameAndType 16 13), (0, u "fits"), (0, .long 4000000), (1, .class_ 20), (0, u "com/example/travaso/travaso/model/PicoSizeTextPinLaw"), (2, u "law"), (0, u "(JJJ)Z")] 3

def k1m0 : Method := { name := "<init>", desc := "()V", sig := { parameters := [], returnType := none }, accessFlags := 1, code := none }
def k1c1 : Code := { maxStack := 5, maxLocals := 14, code := code, exceptionTable := #[], attributes := #[] }
def k1m1 : Method := { name := "law", desc := "(JJJ)Z", sig := { parameters := [.long, .long, .long], returnType := some .boolean }, accessFlags := 9, code := some k1c1 }
/-- com/example/travaso/travaso/model/PicoSizeTextPinLaw -/
def k1 : Class := { plain "com/example/travaso/travaso/model/PicoSizeTextPinLaw" (some 0) with
  accessFlags := 49
  interfaces := #[]
  cf := some (fileOf pool1 19 #[] #[{ accessFlags := 1, nameIndex := 5, descriptorIndex := 6, attributes := #[] }, { accessFlags := 9, nameIndex := 23, descriptorIndex := 24, attributes := #[] }] 49 2 #[] #[])
  fields := #[]
  methods := #[k1m0, k1m1]
  instanceTypes := #[]
  staticTypes := #[]
  resolved := Array.replicate 28 none
  statics := none }

def pool2 : Array CpInfo := pool [(1, .methodref 2 3), (0, .class_ 4), (0, .nameAndType 5 6), (0, u "java/lang/Object"), (0, u "<init>"), (0, u "()V"), (0, .fieldref 8 9), (0, .class_ 10), (0, .nameAndType 11 12), (0, u "com/example/travaso/travaso/model/PicoSize"), (0, u "elements"), (0, u "I"), (2, u "characters"), (3, u "text"), (0, u "(J)Z"), (0, .fieldref 8 22), (0, .nameAndType 15 23), (0, u "J"), (0, .integer 100000), (0, .long 4000000), (15, u "MAX_ELEMENTS"), (1, u "MAX_CHARACTERS"), (6, u "fits")] 4

def k2c0 : Code := { maxStack := 1, maxLocals := 1, code := prog_59_method_1_code, exceptionTable := #[], attributes := #[] }
def k2m0 : Method := { name := "<init>", desc := "()V", sig := { parameters := [], returnType := none }, accessFlags := 1, code := some k2c0 }
def k2c1 : Code := { maxStack := 5, maxLocals := 3, code := prog_59_method_3_code, exceptionTable := #[], attributes := #[] }
def k2m1 : Method := { name := "text", desc := "(J)Z", sig := { parameters := [.long], returnType := some .boolean }, accessFlags := 1, code := some k2c1 }
def k2c2 : Code := { maxStack := 4, maxLocals := 3, code := prog_59_method_4_code, exceptionTable := #[], attributes := #[] }
def k2m2 : Method := { name := "fits", desc := "(J)Z", sig := { parameters := [.long], returnType := some .boolean }, accessFlags := 1, code := some k2c2 }
/-- com/example/travaso/travaso/model/PicoSize -/
def k2 : Class := { plain "com/example/travaso/travaso/model/PicoSize" (some 0) with
  accessFlags := 49
  interfaces := #[]
  cf := some (fileOf pool2 8 #[] #[{ accessFlags := 1, nameIndex := 5, descriptorIndex := 6, attributes := #[] }, { accessFlags := 1, nameIndex := 19, descriptorIndex := 20, attributes := #[] }, { accessFlags := 1, nameIndex := 50, descriptorIndex := 20, attributes := #[] }] 49 2 #[] #[{ accessFlags := 25, nameIndex := 41, descriptorIndex := 12, attributes := #[] }, { accessFlags := 25, nameIndex := 43, descriptorIndex := 12, attributes := #[] }, { accessFlags := 2, nameIndex := 11, descriptorIndex := 12, attributes := #[] }, { accessFlags := 2, nameIndex := 15, descriptorIndex := 23, attributes := #[] }])
  fields := #[{ name := "MAX_ELEMENTS", type := .int, accessFlags := 25, slot := 0, constantValue := 0 }, { name := "MAX_CHARACTERS", type := .int, accessFlags := 25, slot := 1, constantValue := 0 }, { name := "elements", type := .int, accessFlags := 2, slot := 0, constantValue := 0 }, { name := "characters", type := .long, accessFlags := 2, slot := 1, constantValue := 0 }]
  methods := #[k2m0, k2m1, k2m2]
  instanceTypes := #[.int, .long]
  staticTypes := #[.int, .int]
  resolved := Array.replicate 55 none
  statics := none }

def pool3 : Array CpInfo := pool [(1, u "java/lang/Cloneable"), (0, .class_ 1), (0, u "java/lang/Object"), (0, .class_ 3)] 3

/-- java/lang/Cloneable -/
def k3 : Class := { plain "java/lang/Cloneable" (some 0) with
  accessFlags := 1537
  interfaces := #[]
  cf := some (fileOf pool3 2 #[] #[] 1537 4 #[] #[])
  fields := #[]
  methods := #[]
  instanceTypes := #[]
  staticTypes := #[]
  resolved := Array.replicate 8 none
  statics := none }

def pool4 : Array CpInfo := pool [(1, u "java/io/Serializable"), (0, .class_ 1), (0, u "java/lang/Object"), (0, .class_ 3)] 3

/-- java/io/Serializable -/
def k4 : Class := { plain "java/io/Serializable" (some 0) with
  accessFlags := 1537
  interfaces := #[]
  cf := some (fileOf pool4 2 #[] #[] 1537 4 #[] #[])
  fields := #[]
  methods := #[]
  instanceTypes := #[]
  staticTypes := #[]
  resolved := Array.replicate 8 none
  statics := none }

/-- the primitive byte -/
def k5 : Class := { plain "byte" none with kind := .primitive 'B', accessFlags := 0x411 }
/-- [B -/
def k6 : Class := { plain "[B" (some 0) with kind := .array 5 .byte, interfaces := #[3, 4], accessFlags := 1041 }

/-- the primitive int -/
def k7 : Class := { plain "int" none with kind := .primitive 'I', accessFlags := 0x411 }
/-- [I -/
def k8 : Class := { plain "[I" (some 0) with kind := .array 7 .int, interfaces := #[3, 4], accessFlags := 1041 }

def heap : Heap := #[]
def classes : Array Class := #[k0, k1, k2, k3, k4, k5, k6, k7, k8]
def interned : List (Array UInt16 × Addr) := []
def slotsUsed : Nat := 0
def theMethod : MethodId := ⟨1, 1⟩
def args0 : Array Value := #[.long 5, .long 7, .long 9]
def aboutOver (below : List Frame) : State where
  vm := { classes := classes, interned := interned.toArray }
  heap := heap
  slotsUsed := slotsUsed
  threads := #[{ frames := .invoking theMethod args0 :: below }]
def below0 : List Frame := [.native { method := ⟨0, 0⟩, args := #[] }]
def about1 : State := aboutOver below0
def p0 : Program := .bare "" "" ""
def e0 : Env := launch0.env 0 0 0
theorem w_frames : about1.frames = Frame.invoking theMethod args0 :: below0 := rfl
set_option maxRecDepth 65536 in
theorem w_args : argsFit about1.vm theMethod args0 = true := by decide +kernel
set_option maxRecDepth 65536 in
theorem w_heap : heapFits about1 = true := by decide +kernel
set_option maxRecDepth 65536 in
theorem w_runnable : about1.curStatus? = some .runnable := by decide +kernel
set_option maxRecDepth 65536 in
theorem w_alone : about1.alone = true := by decide +kernel
set_option maxRecDepth 65536 in
theorem w_named : about1.methodNamed? x = some theMethod := by decide +kernel
set_option maxRecDepth 65536 in
theorem w_hears : about1.hears theMethod below0 = true := by decide +kernel
set_option maxRecDepth 65536 in
theorem w_ripe : about1.ripe theMethod args0 below0 = true := by decide +kernel
theorem w_running : about1.status = .running := rfl
set_option maxRecDepth 65536 in
theorem w_room : about1.hasRoom e0.platform room_1 = true :=
  launch0.hasRoom_least _ room_1 (by decide +kernel) (by decide +kernel) (by decide +kernel) (by decide +kernel) (by decide +kernel) (by decide +kernel)
theorem allAtoms_all (ts : List Jvm.Cond) (a : Array Jvm.Value) (st : Jvm.State) : (allAtoms ts).before a st = ts.all (fun c => c.before a st) := by
  induction ts with
  | nil => rfl
  | cons c t ih =>
    show (Jvm.Cond.and c (allAtoms t)).before a st = _
    rw [Jvm.Cond.before_and, ih, List.all_cons]
def words1 : List Jvm.Cond := Jvm.Cond.code x code maxLocals ret :: tables_1
/-- a 'code' word, met by the world's own term for the bytes: nothing is compared byte by byte -/
theorem code_word {y : MethodName} {bytes : ByteArray} {mx : Nat} {rt : Option FieldType} {a : Array Value} {s : State} {m : MethodId} {meth : Method} {c : Code} (h1 : s.methodNamed? y = some m) (h2 : s.vm.method? m = some meth) (h3 : meth.code = some c) (h4 : c.code = bytes)
    (h5 : (c.maxLocals == mx && c.exceptionTable.isEmpty && decide (c.maxStack ≤ mostOperands) && decide (meth.sig.returnType = rt) && !meth.locks && decide (parseMethodDescriptor y.desc = some meth.sig)) = true) : (Jvm.Cond.code y bytes mx rt).before a s = true := by
  simp only [Bool.and_eq_true, beq_iff_eq, Bool.not_eq_true', decide_eq_true_eq] at h5
  obtain ⟨⟨⟨⟨⟨g1, g2⟩, g3⟩, g4⟩, g5⟩, g6⟩ := h5
  simp [Cond.before, Cond.holds, Cond.value, h1, h2, h3, h4, g1, g2, g3, g4, g5, g6]
def isCode : Jvm.Cond → Bool
  | .code _ _ _ _ => true
  | _ => false
theorem all_split {L : List Jvm.Cond} {P : Jvm.Cond → Bool} (h1 : L.all (fun c => isCode c || P c) = true) (h2 : ∀ c ∈ L.filter isCode, P c = true) : L.all P = true := by
  refine List.all_eq_true.mpr fun c hc => ?_
  have h := List.all_eq_true.mp h1 c hc
  rcases Bool.eq_false_or_eq_true (isCode c) with hi | hi
  · exact h2 c (List.mem_filter.mpr ⟨hc, hi⟩)
  · simpa [hi] using h
set_option maxRecDepth 65536 in
theorem w_c0 : (Jvm.Cond.code x code maxLocals ret).before args0 about1 = true := code_word (m := ⟨1, 1⟩) (meth := k1m1) (c := k1c1) (by decide +kernel) rfl rfl rfl (by decide +kernel)
set_option maxRecDepth 65536 in
theorem w_c1 : (Jvm.Cond.code ({ cls := "com/example/travaso/travaso/model/PicoSize", name := "<init>", desc := "()V" } : Jvm.MethodName) prog_59_method_1_code (1 : Nat) (Option.none : Option Jvm.ClassFile.FieldType)).before args0 about1 = true := code_word (m := ⟨2, 0⟩) (meth := k2m0) (c := k2c0) (by decide +kernel) rfl rfl rfl (by decide +kernel)
set_option maxRecDepth 65536 in
theorem w_c2 : (Jvm.Cond.code ({ cls := "java/lang/Object", name := "<init>", desc := "()V" } : Jvm.MethodName) object_method_1_code (1 : Nat) (Option.none : Option Jvm.ClassFile.FieldType)).before args0 about1 = true := code_word (m := ⟨0, 0⟩) (meth := k0m0) (c := k0c0) (by decide +kernel) rfl rfl rfl (by decide +kernel)
set_option maxRecDepth 65536 in
theorem w_c3 : (Jvm.Cond.code ({ cls := "com/example/travaso/travaso/model/PicoSize", name := "text", desc := "(J)Z" } : Jvm.MethodName) prog_59_method_3_code (3 : Nat) (Option.some Jvm.ClassFile.FieldType.boolean)).before args0 about1 = true := code_word (m := ⟨2, 1⟩) (meth := k2m1) (c := k2c1) (by decide +kernel) rfl rfl rfl (by decide +kernel)
set_option maxRecDepth 65536 in
theorem w_c4 : (Jvm.Cond.code ({ cls := "com/example/travaso/travaso/model/PicoSize", name := "fits", desc := "(J)Z" } : Jvm.MethodName) prog_59_method_4_code (3 : Nat) (Option.some Jvm.ClassFile.FieldType.boolean)).before args0 about1 = true := code_word (m := ⟨2, 2⟩) (meth := k2m2) (c := k2c2) (by decide +kernel) rfl rfl rfl (by decide +kernel)
def codes1 : List Jvm.Cond := [Jvm.Cond.code x code maxLocals ret, Jvm.Cond.code ({ cls := "com/example/travaso/travaso/model/PicoSize", name := "<init>", desc := "()V" } : Jvm.MethodName) prog_59_method_1_code (1 : Nat) (Option.none : Option Jvm.ClassFile.FieldType), Jvm.Cond.code ({ cls := "java/lang/Object", name := "<init>", desc := "()V" } : Jvm.MethodName) object_method_1_code (1 : Nat) (Option.none : Option Jvm.ClassFile.FieldType), Jvm.Cond.code ({ cls := "com/example/travaso/travaso/model/PicoSize", name := "text", desc := "(J)Z" } : Jvm.MethodName) prog_59_method_3_code (3 : Nat) (Option.some Jvm.ClassFile.FieldType.boolean), Jvm.Cond.code ({ cls := "com/example/travaso/travaso/model/PicoSize", name := "fits", desc := "(J)Z" } : Jvm.MethodName) prog_59_method_4_code (3 : Nat) (Option.some Jvm.ClassFile.FieldType.boolean)]
set_option maxRecDepth 65536 in
theorem codes_eq : words1.filter isCode = codes1 := rfl
theorem w_codes : ∀ c ∈ words1.filter isCode, c.before args0 about1 = true := by
  rw [codes_eq]
  intro c hc
  simp only [codes1, List.mem_cons, List.not_mem_nil, or_false] at hc
  rcases hc with rfl | rfl | rfl | rfl | rfl
  · exact w_c0
  · exact w_c1
  · exact w_c2
  · exact w_c3
  · exact w_c4
set_option maxRecDepth 65536 in
theorem w_t1 : (words1.take 24).all (fun c => isCode c || c.before args0 about1) = true := by decide +kernel
set_option maxRecDepth 65536 in
theorem w_t2 : (words1.drop 24).all (fun c => isCode c || c.before args0 about1) = true := by decide +kernel
theorem w_tables : (allAtoms (Jvm.Cond.code x code maxLocals ret :: tables_1)).before args0 about1 = true := by
  rw [allAtoms_all]
  show words1.all (fun c => c.before args0 about1) = true
  refine all_split ?_ w_codes
  rw [← List.take_append_drop 24 words1, List.all_append, w_t1, w_t2]
  rfl
set_option maxRecDepth 65536 in
theorem w_case : (Jvm.Cond.and given_1 narrow_1).before args0 about1 = true := by decide +kernel
theorem w_applies : (headSpec (Jvm.Cond.code x code maxLocals ret :: tables_1) room_1).applies x e0.platform about1 = true :=
  (Spec.applies_iff w_frames).mpr ⟨w_running, w_runnable, w_alone, w_named, w_hears, w_ripe, w_room, w_tables⟩
theorem atStart : AtStart classFile x code maxLocals ret World_1 tables_1 room_1 Calls_1 rest_1 Pre_1 launch0 p0 e0 about1 theMethod args0 below0 :=
  ⟨lists_1, trivial, launch0.admits_env _ _ _, launch0.least_env, fairChoices_fair.cas, fairChoices_fair.clock, w_frames, w_args, w_heap, w_applies, trivial, trivial, w_case⟩
end start1
theorem witness_1 : WitnessClaimed_1 := ⟨start1.p0, start1.e0, start1.about1, start1.theMethod, start1.args0, start1.below0, start1.atStart⟩
end Jvm.Pilot.@@N@@
