import JvmDerived
import JvmDerived.Pilot.@@N@@Statement
import JvmDerived.Pilot.@@N@@Code
set_option linter.unusedVariables false
set_option linter.unusedSimpArgs false
@@BLOCK:NumsL.lean.txt@@
namespace Jvm.RoadKit
open Sem ClassFile Op Lib Jvm.Stand Jvm.Free Jvm.LawKit
section New
variable {p : Program} {l : Launch} {e : Env} {R : Room} {s : State} {m : MethodId} {args : Array Value} {below : List Frame} {meth : Method} {c : Code} {T : State} {locs : List Loc} {cells slots : Nat}
theorem retI (X : Stand p l e R s m args below meth c T locs cells slots) (hx : p.tables.exec = Jvm.exec) {pc : Nat} {Ls : Array Slot} {z : Int32} {rest : List Value} (hret : meth.sig.returnType = some .int) (hd : decode c.code pc = .ok (.ireturn, 1)) {fs : List Frame}
    (hl : ∀ (f : JFrame) (acts : List Action), f.method = m → f.locked = none → f.entered = [] → (doReturn e (T.setTop f) acts (some (.int z))).1 = T.setFrames fs) : Steps p.tables e below (T.setTop (mkF m pc Ls (.int z :: rest))) (T.setFrames fs) := by
  have hm' : T.vm.method? m = some meth := X.method'
  have hn : narrow .int (.int z) = .int z := rfl
  show Steps p.tables e below (T.setTop { method := m, pc := pc, locals := Ls, stack := _ :: rest, locked := none }) _
  jvm_step X.here [X.here.top, hx, hd, hm', hret, hn]
  first | (intro acts; rw [hl _ acts rfl rfl rfl]) | rw [hl _ _ rfl rfl rfl]
  exact Steps.refl _
end New
end Jvm.RoadKit
namespace Jvm.Pilot.@@N@@
open Jvm Jvm.ClassFile Sem Op Lib Jvm.Free Jvm.Stand Jvm.LawKit Jvm.RoadKit Bundle Jvm.Pilot.@@N@@.Jvm.D
theorem d1_0 : decode prog_17_method_1_code 0 = .ok (.iload_n 2, 1) := by decide +kernel
theorem d1_1 : decode prog_17_method_1_code 1 = .ok (.bipush 24, 2) := by decide +kernel
theorem d1_3 : decode prog_17_method_1_code 3 = .ok (.if_icmp .lt 9, 3) := by decide +kernel
theorem d1_6 : decode prog_17_method_1_code 6 = .ok (.iload_n 2, 1) := by decide +kernel
theorem d1_7 : decode prog_17_method_1_code 7 = .ok (.bipush 63, 2) := by decide +kernel
theorem d1_9 : decode prog_17_method_1_code 9 = .ok (.if_icmp .lt 5, 3) := by decide +kernel
theorem d1_12 : decode prog_17_method_1_code 12 = .ok (.iconst 0, 1) := by decide +kernel
theorem d1_13 : decode prog_17_method_1_code 13 = .ok (.ireturn, 1) := by decide +kernel
theorem d1_14 : decode prog_17_method_1_code 14 = .ok (.lload_n 0, 1) := by decide +kernel
theorem d1_15 : decode prog_17_method_1_code 15 = .ok (.lconst 1, 1) := by decide +kernel
theorem d1_16 : decode prog_17_method_1_code 16 = .ok (.iload_n 2, 1) := by decide +kernel
theorem d1_17 : decode prog_17_method_1_code 17 = .ok (.lshl, 1) := by decide +kernel
theorem d1_18 : decode prog_17_method_1_code 18 = .ok (.ldc2_w 5, 3) := by decide +kernel
theorem d1_21 : decode prog_17_method_1_code 21 = .ok (.ldiv, 1) := by decide +kernel
theorem d1_22 : decode prog_17_method_1_code 22 = .ok (.ldc2_w 7, 3) := by decide +kernel
theorem d1_25 : decode prog_17_method_1_code 25 = .ok (.lmul, 1) := by decide +kernel
theorem d1_26 : decode prog_17_method_1_code 26 = .ok (.lcmp, 1) := by decide +kernel
theorem d1_27 : decode prog_17_method_1_code 27 = .ok (.ifCond .gt 7, 3) := by decide +kernel
theorem d1_30 : decode prog_17_method_1_code 30 = .ok (.iconst 1, 1) := by decide +kernel
theorem d1_31 : decode prog_17_method_1_code 31 = .ok (.goto 4, 3) := by decide +kernel
theorem d1_34 : decode prog_17_method_1_code 34 = .ok (.iconst 0, 1) := by decide +kernel
theorem d1_35 : decode prog_17_method_1_code 35 = .ok (.ireturn, 1) := by decide +kernel
theorem pn_0 : plainName "com/example/visits_per_key/visitsperkey/store/Packing" = true := by first | (simp [plainName, overriddenIn]; done) | decide +kernel
theorem ef_1 (m : MethodId) (q1 : Int64) (p2 : Int32) : entryFrame m #[(.long q1), (.int p2)] 3 = mkF m 0 #[.val (.long q1), .second, .val (.int p2)] [] := by first | (simp [entryFrame, mkF, argsToLocals, Value.category]; done) | rfl
def j1_35_s0 (q1 : Int64) (p2 : Int32) : Int32 := (if (0 : Int32) < (lcmpW q1 ((((1 : Int64) <<< (p2 &&& 0x3f).toInt64) / (4 : Int64)) * (3 : Int64))) then (0 : Int32) else (1 : Int32))
def v1 (q1 : Int64) (p2 : Int32) : Int32 := (if p2 < (24 : Int32) then (0 : Int32) else (if p2 < (63 : Int32) then (j1_35_s0 q1 p2) else (0 : Int32)))
def Q1 (Z : State) (q1 : Int64) (p2 : Int32) (h0 : Heap) (n0 : Nat) (v : Option Value) (h : Heap) (L : List Loc) : Prop := v = some (.int (v1 q1 p2)) ∧ Fr n0 L ∧ h = h0
set_option maxRecDepth 65536 in
set_option maxHeartbeats 40000000 in
theorem rm1 (l : Launch) (Z : State) (a0 : Array Value) (hw : ∀ d ∈ tables_1, d.before a0 Z = true) (ws : List Jvm.Cond) (q1 : Int64) (p2 : Int32) (h0 : Heap) (n0 : Nat) (Z0 : n0 ≤ h0.size) :
    MetFree l (⟨"com/example/visits_per_key/visitsperkey/store/Packing", "holds", "(JI)Z"⟩ : MethodName) (head1 (Jvm.Cond.code (⟨"com/example/visits_per_key/visitsperkey/store/Packing", "holds", "(JI)Z"⟩ : MethodName) prog_17_method_1_code 3 (some .boolean) :: ws) ({ frames := 0, cells := 0, slots := 0, locals := 0 } : Room)) (fun a U => a = #[(.long q1), (.int p2)] ∧ Z.Warmed39 U.vm ∧ U.heap = h0) (fun _ _ _ _ _ => True) (fun _ U o U' => ∃ v L, o = .returned v ∧ Q1 Z q1 p2 h0 n0 v U'.heap L ∧ FrameEnd U o U' L ({ frames := 0, cells := 0, slots := 0, locals := 0 } : Room).cells ({ frames := 0, cells := 0, slots := 0, locals := 0 } : Room).slots) := by
  refine MetFree.of_bodySF (plainFor_of_name pn_0) hisR ?_
  intro p e s m args below meth c s₁ Bd hml0 hP hK
  obtain ⟨rfl, hZ, hh⟩ := hP
  have hx := Bd.exec
  have hby := Bd.bytes
  have hml : c.maxLocals = 3 := hml0
  have hown : s.vm.findClass "com/example/visits_per_key/visitsperkey/store/Packing" = some m.cls := findClass_of_methodNamed Bd.named
  have hnm := (name_of_methodNamed Bd.named Bd.method).1
  have X0 : Stand p l e ({ frames := 0, cells := 0, slots := 0, locals := 0 } : Room) s m #[(.long q1), (.int p2)] below meth c s₁ [] 0 0 := Stand.of_body Bd
  have e0 : s₁.heap = h0 := by rw [← hh, Bd.state]; rfl
  have N0 := Fr.nil n0
  have pre0 : ∀ t, Steps p.tables e below (s₁.setTop (mkF m 0 #[.val (.long q1), .second, .val (.int p2)] [])) t → Steps p.tables e below (s₁.setTop (entryFrame m #[(.long q1), (.int p2)] 3)) t := fun t k => castTop (ef_1 m q1 p2) k
  by_cases hc3_1 : p2 < (24 : Int32)
  · obtain ⟨fs, hr, hrun, hended, hW, hsame⟩ := X0.leave (v := some (.int (0 : Int32))) (fun h => by rw [Bd.returns] at h; cases h)
    refine ⟨_, _, pre0 _ ?_, hrun, hended, _, _, rfl, ?_, ⟨_, rfl⟩, hW, hsame.mono (by decide) (by decide)⟩
    · show Steps p.tables e below (s₁.setTop (mkF m 0 #[.val (.long q1), .second, .val (.int p2)] [])) _
      refine XS.iloadN X0.here hx rfl (hb hby d1_0) rfl ?_
      show Steps p.tables e below (s₁.setTop (mkF m 1 #[.val (.long q1), .second, .val (.int p2)] [(.int p2)])) _
      refine XS.bipush X0.here hx rfl (hb hby d1_1) ?_
      show Steps p.tables e below (s₁.setTop (mkF m 3 #[.val (.long q1), .second, .val (.int p2)] [(.int (24 : Int32)), (.int p2)])) _
      refine XS.icmpYes X0.here hx rfl (pc0 := 3) (pc' := 12) rfl (hb hby d1_3) rfl (tlt hc3_1).1 (by decide) (by decide) ?_
      show Steps p.tables e below (s₁.setTop (mkF m 12 #[.val (.long q1), .second, .val (.int p2)] [])) _
      refine XS.iconst X0.here hx rfl (hb hby d1_12) ?_
      show Steps p.tables e below (s₁.setTop (mkF m 13 #[.val (.long q1), .second, .val (.int p2)] [(.int (0 : Int32))])) _
      exact retN X0 hx (t := .boolean) Bd.returns (by simp) (hb hby d1_13) hr
    · show Q1 Z q1 p2 h0 n0 _ s₁.heap _
      rw [e0]
      exact ⟨congrArg (fun z => some (Value.int z)) (show v1 q1 p2 = (0 : Int32) from (if_pos hc3_1)).symm, N0, rfl⟩
  · by_cases hc9_2 : p2 < (63 : Int32)
    · have sg14_4 : ∀ t, Steps p.tables e below (s₁.setTop (mkF m 35 #[.val (.long q1), .second, .val (.int p2)] [(.int (j1_35_s0 q1 p2))])) t → Steps p.tables e below (s₁.setTop (mkF m 14 #[.val (.long q1), .second, .val (.int p2)] [])) t := by
        intro t kt
        show Steps p.tables e below (s₁.setTop (mkF m 14 #[.val (.long q1), .second, .val (.int p2)] [])) _
        refine XS.lloadN X0.here hx rfl (hb hby d1_14) rfl ?_
        show Steps p.tables e below (s₁.setTop (mkF m 15 #[.val (.long q1), .second, .val (.int p2)] [(.long q1)])) _
        refine XS.lconst X0.here hx rfl (hb hby d1_15) ?_
        show Steps p.tables e below (s₁.setTop (mkF m 16 #[.val (.long q1), .second, .val (.int p2)] [(.long (1 : Int64)), (.long q1)])) _
        refine XS.iloadN X0.here hx rfl (hb hby d1_16) rfl ?_
        show Steps p.tables e below (s₁.setTop (mkF m 17 #[.val (.long q1), .second, .val (.int p2)] [(.int p2), (.long (1 : Int64)), (.long q1)])) _
        refine XS.lshl X0.here hx rfl (hb hby d1_17) rfl ?_
        show Steps p.tables e below (s₁.setTop (mkF m 18 #[.val (.long q1), .second, .val (.int p2)] [(.long ((1 : Int64) <<< (p2 &&& 0x3f).toInt64)), (.long q1)])) _
        refine X0.ldc2Long hx hown (mvT hZ (hw _ (List.mem_of_getElem? (i := 6) rfl))) (g := (mkF m 18 #[.val (.long q1), .second, .val (.int p2)] [(.long ((1 : Int64) <<< (p2 &&& 0x3f).toInt64)), (.long q1)])) rfl (hb hby d1_18) _ ?_
        show Steps p.tables e below (s₁.setTop (mkF m 21 #[.val (.long q1), .second, .val (.int p2)] [(.long (4 : Int64)), (.long ((1 : Int64) <<< (p2 &&& 0x3f).toInt64)), (.long q1)])) _
        refine XS.ldiv X0.here hx rfl (hb hby d1_21) rfl (by decide) ?_
        show Steps p.tables e below (s₁.setTop (mkF m 22 #[.val (.long q1), .second, .val (.int p2)] [(.long (((1 : Int64) <<< (p2 &&& 0x3f).toInt64) / (4 : Int64))), (.long q1)])) _
        refine X0.ldc2Long hx hown (mvT hZ (hw _ (List.mem_of_getElem? (i := 7) rfl))) (g := (mkF m 22 #[.val (.long q1), .second, .val (.int p2)] [(.long (((1 : Int64) <<< (p2 &&& 0x3f).toInt64) / (4 : Int64))), (.long q1)])) rfl (hb hby d1_22) _ ?_
        show Steps p.tables e below (s₁.setTop (mkF m 25 #[.val (.long q1), .second, .val (.int p2)] [(.long (3 : Int64)), (.long (((1 : Int64) <<< (p2 &&& 0x3f).toInt64) / (4 : Int64))), (.long q1)])) _
        refine XS.lmul X0.here hx rfl (hb hby d1_25) rfl ?_
        show Steps p.tables e below (s₁.setTop (mkF m 26 #[.val (.long q1), .second, .val (.int p2)] [(.long ((((1 : Int64) <<< (p2 &&& 0x3f).toInt64) / (4 : Int64)) * (3 : Int64))), (.long q1)])) _
        refine XS.lcmp X0.here hx rfl (hb hby d1_26) rfl ?_
        show Steps p.tables e below (s₁.setTop (mkF m 27 #[.val (.long q1), .second, .val (.int p2)] [(.int (lcmpW q1 ((((1 : Int64) <<< (p2 &&& 0x3f).toInt64) / (4 : Int64)) * (3 : Int64))))])) _
        by_cases hc27_3 : (0 : Int32) < (lcmpW q1 ((((1 : Int64) <<< (p2 &&& 0x3f).toInt64) / (4 : Int64)) * (3 : Int64)))
        · refine XS.ifYes X0.here hx rfl (pc0 := 27) (pc' := 34) rfl (hb hby d1_27) rfl ((if0 _ _).trans (tlt hc27_3).2.2.1) (by decide) (by decide) ?_
          show Steps p.tables e below (s₁.setTop (mkF m 34 #[.val (.long q1), .second, .val (.int p2)] [])) _
          refine XS.iconst X0.here hx rfl (hb hby d1_34) ?_
          rw [show (j1_35_s0 q1 p2) = (0 : Int32) from (if_pos hc27_3)] at kt
          exact kt
        · refine XS.ifNo X0.here hx rfl (hb hby d1_27) rfl ((if0 _ _).trans (flt hc27_3).2.2.1) ?_
          show Steps p.tables e below (s₁.setTop (mkF m 30 #[.val (.long q1), .second, .val (.int p2)] [])) _
          refine XS.iconst X0.here hx rfl (hb hby d1_30) ?_
          show Steps p.tables e below (s₁.setTop (mkF m 31 #[.val (.long q1), .second, .val (.int p2)] [(.int (1 : Int32))])) _
          refine XS.goto X0.here hx rfl (pc0 := 31) (pc' := 35) rfl (hb hby d1_31) (by decide) (by decide) ?_
          rw [show (j1_35_s0 q1 p2) = (1 : Int32) from (if_neg hc27_3)] at kt
          exact kt
      have hnar : nar .boolean (j1_35_s0 q1 p2) = (j1_35_s0 q1 p2) := by
        unfold j1_35_s0
        repeat' split
        all_goals rfl
      obtain ⟨fs, hr, hrun, hended, hW, hsame⟩ := X0.leave (v := some (.int (j1_35_s0 q1 p2))) (fun h => by rw [Bd.returns] at h; cases h)
      refine ⟨_, _, pre0 _ ?_, hrun, hended, _, _, rfl, ?_, ⟨_, rfl⟩, hW, hsame.mono (by decide) (by decide)⟩
      · show Steps p.tables e below (s₁.setTop (mkF m 0 #[.val (.long q1), .second, .val (.int p2)] [])) _
        refine XS.iloadN X0.here hx rfl (hb hby d1_0) rfl ?_
        show Steps p.tables e below (s₁.setTop (mkF m 1 #[.val (.long q1), .second, .val (.int p2)] [(.int p2)])) _
        refine XS.bipush X0.here hx rfl (hb hby d1_1) ?_
        show Steps p.tables e below (s₁.setTop (mkF m 3 #[.val (.long q1), .second, .val (.int p2)] [(.int (24 : Int32)), (.int p2)])) _
        refine XS.icmpNo X0.here hx rfl (hb hby d1_3) rfl (flt hc3_1).1 ?_
        show Steps p.tables e below (s₁.setTop (mkF m 6 #[.val (.long q1), .second, .val (.int p2)] [])) _
        refine XS.iloadN X0.here hx rfl (hb hby d1_6) rfl ?_
        show Steps p.tables e below (s₁.setTop (mkF m 7 #[.val (.long q1), .second, .val (.int p2)] [(.int p2)])) _
        refine XS.bipush X0.here hx rfl (hb hby d1_7) ?_
        show Steps p.tables e below (s₁.setTop (mkF m 9 #[.val (.long q1), .second, .val (.int p2)] [(.int (63 : Int32)), (.int p2)])) _
        refine XS.icmpYes X0.here hx rfl (pc0 := 9) (pc' := 14) rfl (hb hby d1_9) rfl (tlt hc9_2).1 (by decide) (by decide) ?_
        show Steps p.tables e below (s₁.setTop (mkF m 14 #[.val (.long q1), .second, .val (.int p2)] [])) _
        refine sg14_4 _ ?_
        show Steps p.tables e below (s₁.setTop (mkF m 35 #[.val (.long q1), .second, .val (.int p2)] [(.int (j1_35_s0 q1 p2))])) _
        exact retN X0 hx (t := .boolean) Bd.returns (by simp) (hb hby d1_35) (by rw [hnar]; exact hr)
      · show Q1 Z q1 p2 h0 n0 _ s₁.heap _
        rw [e0]
        exact ⟨congrArg (fun z => some (Value.int z)) (show v1 q1 p2 = (j1_35_s0 q1 p2) from ((if_neg hc3_1).trans (if_pos hc9_2))).symm, N0, rfl⟩
    · obtain ⟨fs, hr, hrun, hended, hW, hsame⟩ := X0.leave (v := some (.int (0 : Int32))) (fun h => by rw [Bd.returns] at h; cases h)
      refine ⟨_, _, pre0 _ ?_, hrun, hended, _, _, rfl, ?_, ⟨_, rfl⟩, hW, hsame.mono (by decide) (by decide)⟩
      · show Steps p.tables e below (s₁.setTop (mkF m 0 #[.val (.long q1), .second, .val (.int p2)] [])) _
        refine XS.iloadN X0.here hx rfl (hb hby d1_0) rfl ?_
        show Steps p.tables e below (s₁.setTop (mkF m 1 #[.val (.long q1), .second, .val (.int p2)] [(.int p2)])) _
        refine XS.bipush X0.here hx rfl (hb hby d1_1) ?_
        show Steps p.tables e below (s₁.setTop (mkF m 3 #[.val (.long q1), .second, .val (.int p2)] [(.int (24 : Int32)), (.int p2)])) _
        refine XS.icmpNo X0.here hx rfl (hb hby d1_3) rfl (flt hc3_1).1 ?_
        show Steps p.tables e below (s₁.setTop (mkF m 6 #[.val (.long q1), .second, .val (.int p2)] [])) _
        refine XS.iloadN X0.here hx rfl (hb hby d1_6) rfl ?_
        show Steps p.tables e below (s₁.setTop (mkF m 7 #[.val (.long q1), .second, .val (.int p2)] [(.int p2)])) _
        refine XS.bipush X0.here hx rfl (hb hby d1_7) ?_
        show Steps p.tables e below (s₁.setTop (mkF m 9 #[.val (.long q1), .second, .val (.int p2)] [(.int (63 : Int32)), (.int p2)])) _
        refine XS.icmpNo X0.here hx rfl (hb hby d1_9) rfl (flt hc9_2).1 ?_
        show Steps p.tables e below (s₁.setTop (mkF m 12 #[.val (.long q1), .second, .val (.int p2)] [])) _
        refine XS.iconst X0.here hx rfl (hb hby d1_12) ?_
        show Steps p.tables e below (s₁.setTop (mkF m 13 #[.val (.long q1), .second, .val (.int p2)] [(.int (0 : Int32))])) _
        exact retN X0 hx (t := .boolean) Bd.returns (by simp) (hb hby d1_13) hr
      · show Q1 Z q1 p2 h0 n0 _ s₁.heap _
        rw [e0]
        exact ⟨congrArg (fun z => some (Value.int z)) (show v1 q1 p2 = (0 : Int32) from ((if_neg hc3_1).trans (if_neg hc9_2))).symm, N0, rfl⟩
theorem pd_0 : parseMethodDescriptor "(JI)Z" = some ⟨[.long, .int], some .boolean⟩ := by decide +kernel
theorem pn_1 : plainName "com/example/visits_per_key/visitsperkey/store/PackingHoldsPinLaw" = true := by first | (simp [plainName, overriddenIn]; done) | decide +kernel
theorem ef_0 (m : MethodId) (q1 : Int64) (p2 : Int32) (p3 : Int32) : entryFrame m #[(.long q1), (.int p2), (.int p3)] maxLocals = mkF m 0 #[.val (.long q1), .second, .val (.int p2), .val (.int p3), .unset, .unset, .unset, .unset, .unset, .unset, .unset, .unset, .unset] [] := by first | (simp [entryFrame, mkF, argsToLocals, Value.category, maxLocals]; done) | rfl
def j0_19_s0 (q1 : Int64) (p2 : Int32) (p3 : Int32) : Int32 := (if (p3 &&& (1 : Int32)) = (0 : Int32) then (((p2 &&& (2147483647 : Int32)) - ((p2 &&& (2147483647 : Int32)) / (70 : Int32)) * (70 : Int32)) - (3 : Int32)) else p2)
def j0_48_s0 (q1 : Int64) (p2 : Int32) (p3 : Int32) : Int64 := (if (p3 &&& (2 : Int32)) = (0 : Int32) then (((3 : Int64) <<< ((((j0_19_s0 q1 p2 p3) - (2 : Int32)) &&& (63 : Int32)) &&& 0x3f).toInt64) + (q1 - (q1 / (3 : Int64)) * (3 : Int64))) else q1)
def j0_126_l7 (q1 : Int64) (p2 : Int32) (p3 : Int32) : Int32 := (if (j0_19_s0 q1 p2 p3) < (24 : Int32) then (0 : Int32) else (if (62 : Int32) < (j0_19_s0 q1 p2 p3) then (0 : Int32) else (if (lcmpW ((j0_48_s0 q1 p2 p3) >>> (((j0_19_s0 q1 p2 p3) - (2 : Int32)) &&& 0x3f).toInt64) (3 : Int64)) < (0 : Int32) then (1 : Int32) else (if (lcmpW ((j0_48_s0 q1 p2 p3) >>> (((j0_19_s0 q1 p2 p3) - (2 : Int32)) &&& 0x3f).toInt64) (3 : Int64)) = (0 : Int32) then (if (lcmpW ((j0_48_s0 q1 p2 p3) &&& (((1 : Int64) <<< (((j0_19_s0 q1 p2 p3) - (2 : Int32)) &&& 0x3f).toInt64) - (1 : Int64))) (0 : Int64)) = (0 : Int32) then (1 : Int32) else (0 : Int32)) else (0 : Int32)))))
def j0_126_l8 (q1 : Int64) (p2 : Int32) (p3 : Int32) : Slot := (if (j0_19_s0 q1 p2 p3) < (24 : Int32) then (.unset) else (if (62 : Int32) < (j0_19_s0 q1 p2 p3) then (.unset) else (if (lcmpW ((j0_48_s0 q1 p2 p3) >>> (((j0_19_s0 q1 p2 p3) - (2 : Int32)) &&& 0x3f).toInt64) (3 : Int64)) < (0 : Int32) then (.val (.int ((j0_19_s0 q1 p2 p3) - (2 : Int32)))) else (if (lcmpW ((j0_48_s0 q1 p2 p3) >>> (((j0_19_s0 q1 p2 p3) - (2 : Int32)) &&& 0x3f).toInt64) (3 : Int64)) = (0 : Int32) then (if (lcmpW ((j0_48_s0 q1 p2 p3) &&& (((1 : Int64) <<< (((j0_19_s0 q1 p2 p3) - (2 : Int32)) &&& 0x3f).toInt64) - (1 : Int64))) (0 : Int64)) = (0 : Int32) then (.val (.int ((j0_19_s0 q1 p2 p3) - (2 : Int32)))) else (.val (.int ((j0_19_s0 q1 p2 p3) - (2 : Int32))))) else (.val (.int ((j0_19_s0 q1 p2 p3) - (2 : Int32))))))))
def j0_126_l9 (q1 : Int64) (p2 : Int32) (p3 : Int32) : Slot := (if (j0_19_s0 q1 p2 p3) < (24 : Int32) then (.unset) else (if (62 : Int32) < (j0_19_s0 q1 p2 p3) then (.unset) else (if (lcmpW ((j0_48_s0 q1 p2 p3) >>> (((j0_19_s0 q1 p2 p3) - (2 : Int32)) &&& 0x3f).toInt64) (3 : Int64)) < (0 : Int32) then (.val (.long ((j0_48_s0 q1 p2 p3) >>> (((j0_19_s0 q1 p2 p3) - (2 : Int32)) &&& 0x3f).toInt64))) else (if (lcmpW ((j0_48_s0 q1 p2 p3) >>> (((j0_19_s0 q1 p2 p3) - (2 : Int32)) &&& 0x3f).toInt64) (3 : Int64)) = (0 : Int32) then (if (lcmpW ((j0_48_s0 q1 p2 p3) &&& (((1 : Int64) <<< (((j0_19_s0 q1 p2 p3) - (2 : Int32)) &&& 0x3f).toInt64) - (1 : Int64))) (0 : Int64)) = (0 : Int32) then (.val (.long ((j0_48_s0 q1 p2 p3) >>> (((j0_19_s0 q1 p2 p3) - (2 : Int32)) &&& 0x3f).toInt64))) else (.val (.long ((j0_48_s0 q1 p2 p3) >>> (((j0_19_s0 q1 p2 p3) - (2 : Int32)) &&& 0x3f).toInt64)))) else (.val (.long ((j0_48_s0 q1 p2 p3) >>> (((j0_19_s0 q1 p2 p3) - (2 : Int32)) &&& 0x3f).toInt64)))))))
def j0_126_l10 (q1 : Int64) (p2 : Int32) (p3 : Int32) : Slot := (if (j0_19_s0 q1 p2 p3) < (24 : Int32) then (.unset) else (if (62 : Int32) < (j0_19_s0 q1 p2 p3) then (.unset) else (if (lcmpW ((j0_48_s0 q1 p2 p3) >>> (((j0_19_s0 q1 p2 p3) - (2 : Int32)) &&& 0x3f).toInt64) (3 : Int64)) < (0 : Int32) then (.second) else (if (lcmpW ((j0_48_s0 q1 p2 p3) >>> (((j0_19_s0 q1 p2 p3) - (2 : Int32)) &&& 0x3f).toInt64) (3 : Int64)) = (0 : Int32) then (if (lcmpW ((j0_48_s0 q1 p2 p3) &&& (((1 : Int64) <<< (((j0_19_s0 q1 p2 p3) - (2 : Int32)) &&& 0x3f).toInt64) - (1 : Int64))) (0 : Int64)) = (0 : Int32) then (.second) else (.second)) else (.second)))))
def j0_126_l11 (q1 : Int64) (p2 : Int32) (p3 : Int32) : Slot := (if (j0_19_s0 q1 p2 p3) < (24 : Int32) then (.unset) else (if (62 : Int32) < (j0_19_s0 q1 p2 p3) then (.unset) else (if (lcmpW ((j0_48_s0 q1 p2 p3) >>> (((j0_19_s0 q1 p2 p3) - (2 : Int32)) &&& 0x3f).toInt64) (3 : Int64)) < (0 : Int32) then (.val (.long ((j0_48_s0 q1 p2 p3) &&& (((1 : Int64) <<< (((j0_19_s0 q1 p2 p3) - (2 : Int32)) &&& 0x3f).toInt64) - (1 : Int64))))) else (if (lcmpW ((j0_48_s0 q1 p2 p3) >>> (((j0_19_s0 q1 p2 p3) - (2 : Int32)) &&& 0x3f).toInt64) (3 : Int64)) = (0 : Int32) then (if (lcmpW ((j0_48_s0 q1 p2 p3) &&& (((1 : Int64) <<< (((j0_19_s0 q1 p2 p3) - (2 : Int32)) &&& 0x3f).toInt64) - (1 : Int64))) (0 : Int64)) = (0 : Int32) then (.val (.long ((j0_48_s0 q1 p2 p3) &&& (((1 : Int64) <<< (((j0_19_s0 q1 p2 p3) - (2 : Int32)) &&& 0x3f).toInt64) - (1 : Int64))))) else (.val (.long ((j0_48_s0 q1 p2 p3) &&& (((1 : Int64) <<< (((j0_19_s0 q1 p2 p3) - (2 : Int32)) &&& 0x3f).toInt64) - (1 : Int64)))))) else (.val (.long ((j0_48_s0 q1 p2 p3) &&& (((1 : Int64) <<< (((j0_19_s0 q1 p2 p3) - (2 : Int32)) &&& 0x3f).toInt64) - (1 : Int64)))))))))
def j0_126_l12 (q1 : Int64) (p2 : Int32) (p3 : Int32) : Slot := (if (j0_19_s0 q1 p2 p3) < (24 : Int32) then (.unset) else (if (62 : Int32) < (j0_19_s0 q1 p2 p3) then (.unset) else (if (lcmpW ((j0_48_s0 q1 p2 p3) >>> (((j0_19_s0 q1 p2 p3) - (2 : Int32)) &&& 0x3f).toInt64) (3 : Int64)) < (0 : Int32) then (.second) else (if (lcmpW ((j0_48_s0 q1 p2 p3) >>> (((j0_19_s0 q1 p2 p3) - (2 : Int32)) &&& 0x3f).toInt64) (3 : Int64)) = (0 : Int32) then (if (lcmpW ((j0_48_s0 q1 p2 p3) &&& (((1 : Int64) <<< (((j0_19_s0 q1 p2 p3) - (2 : Int32)) &&& 0x3f).toInt64) - (1 : Int64))) (0 : Int64)) = (0 : Int32) then (.second) else (.second)) else (.second)))))
def j0_143_s0 (q1 : Int64) (p2 : Int32) (p3 : Int32) : Int32 := (if (v1 (j0_48_s0 q1 p2 p3) (j0_19_s0 q1 p2 p3)) = (j0_126_l7 q1 p2 p3) then (1 : Int32) else (0 : Int32))
def v0 (q1 : Int64) (p2 : Int32) (p3 : Int32) : Int32 := (j0_143_s0 q1 p2 p3)
def Q0 (Z : State) (q1 : Int64) (p2 : Int32) (p3 : Int32) (h0 : Heap) (n0 : Nat) (v : Option Value) (h : Heap) (L : List Loc) : Prop := v = some (.int (v0 q1 p2 p3)) ∧ Fr n0 L ∧ True
set_option maxRecDepth 65536 in
set_option maxHeartbeats 40000000 in
theorem rm0 (l : Launch) (Z : State) (a0 : Array Value) (hw : ∀ d ∈ tables_1, d.before a0 Z = true) (ws : List Jvm.Cond) (q1 : Int64) (p2 : Int32) (p3 : Int32) (h0 : Heap) (n0 : Nat) (Z0 : n0 ≤ h0.size) :
    MetFree l x (head1 (Jvm.Cond.code x code maxLocals ret :: ws) room_1) (fun a U => a = #[(.long q1), (.int p2), (.int p3)] ∧ Z.Warmed39 U.vm ∧ U.heap = h0) (fun _ _ _ _ _ => True) (fun _ U o U' => ∃ v L, o = .returned v ∧ Q0 Z q1 p2 p3 h0 n0 v U'.heap L ∧ FrameEnd U o U' L room_1.cells room_1.slots) := by
  refine MetFree.of_bodySF (plainFor_of_name pn_1) hisR ?_
  intro p e s m args below meth c s₁ Bd hml0 hP hK
  obtain ⟨rfl, hZ, hh⟩ := hP
  have hx := Bd.exec
  have hby := Bd.bytes
  have hml : c.maxLocals = 13 := hml0
  have hown : s.vm.findClass "com/example/visits_per_key/visitsperkey/store/PackingHoldsPinLaw" = some m.cls := findClass_of_methodNamed Bd.named
  have hnm := (name_of_methodNamed Bd.named Bd.method).1
  have X0 : Stand p l e room_1 s m #[(.long q1), (.int p2), (.int p3)] below meth c s₁ [] 0 0 := Stand.of_body Bd
  have e0 : s₁.heap = h0 := by rw [← hh, Bd.state]; rfl
  have N0 := Fr.nil n0
  have pre0 : ∀ t, Steps p.tables e below (s₁.setTop (mkF m 0 #[.val (.long q1), .second, .val (.int p2), .val (.int p3), .unset, .unset, .unset, .unset, .unset, .unset, .unset, .unset, .unset] [])) t → Steps p.tables e below (s₁.setTop (entryFrame m #[(.long q1), (.int p2), (.int p3)] maxLocals)) t := fun t k => castTop (ef_0 m q1 p2 p3) k
  have sg0_2 : ∀ t, Steps p.tables e below (s₁.setTop (mkF m 19 #[.val (.long q1), .second, .val (.int p2), .val (.int p3), .unset, .unset, .unset, .unset, .unset, .unset, .unset, .unset, .unset] [(.int (j0_19_s0 q1 p2 p3))])) t → Steps p.tables e below (s₁.setTop (mkF m 0 #[.val (.long q1), .second, .val (.int p2), .val (.int p3), .unset, .unset, .unset, .unset, .unset, .unset, .unset, .unset, .unset] [])) t := by
    intro t kt
    show Steps p.tables e below (s₁.setTop (mkF m 0 #[.val (.long q1), .second, .val (.int p2), .val (.int p3), .unset, .unset, .unset, .unset, .unset, .unset, .unset, .unset, .unset] [])) _
    refine XS.iloadN X0.here hx rfl (hb hby at_0) rfl ?_
    show Steps p.tables e below (s₁.setTop (mkF m 1 #[.val (.long q1), .second, .val (.int p2), .val (.int p3), .unset, .unset, .unset, .unset, .unset, .unset, .unset, .unset, .unset] [(.int p3)])) _
    refine XS.iconst X0.here hx rfl (hb hby at_1) ?_
    show Steps p.tables e below (s₁.setTop (mkF m 2 #[.val (.long q1), .second, .val (.int p2), .val (.int p3), .unset, .unset, .unset, .unset, .unset, .unset, .unset, .unset, .unset] [(.int (1 : Int32)), (.int p3)])) _
    refine XS.iand X0.here hx rfl (hb hby at_2) rfl ?_
    show Steps p.tables e below (s₁.setTop (mkF m 3 #[.val (.long q1), .second, .val (.int p2), .val (.int p3), .unset, .unset, .unset, .unset, .unset, .unset, .unset, .unset, .unset] [(.int (p3 &&& (1 : Int32)))])) _
    by_cases hc3_1 : (p3 &&& (1 : Int32)) = (0 : Int32)
    · refine XS.ifYes X0.here hx rfl (pc0 := 3) (pc' := 10) rfl (hb hby at_3) rfl ((if0 _ _).trans (teq hc3_1).1) (by decide) (by decide) ?_
      show Steps p.tables e below (s₁.setTop (mkF m 10 #[.val (.long q1), .second, .val (.int p2), .val (.int p3), .unset, .unset, .unset, .unset, .unset, .unset, .unset, .unset, .unset] [])) _
      refine XS.iloadN X0.here hx rfl (hb hby at_10) rfl ?_
      show Steps p.tables e below (s₁.setTop (mkF m 11 #[.val (.long q1), .second, .val (.int p2), .val (.int p3), .unset, .unset, .unset, .unset, .unset, .unset, .unset, .unset, .unset] [(.int p2)])) _
      refine X0.ldcInt hx hown (mvT hZ (hw _ (List.mem_of_getElem? (i := 5) rfl))) (g := (mkF m 11 #[.val (.long q1), .second, .val (.int p2), .val (.int p3), .unset, .unset, .unset, .unset, .unset, .unset, .unset, .unset, .unset] [(.int p2)])) rfl (hb hby at_11) _ ?_
      show Steps p.tables e below (s₁.setTop (mkF m 13 #[.val (.long q1), .second, .val (.int p2), .val (.int p3), .unset, .unset, .unset, .unset, .unset, .unset, .unset, .unset, .unset] [(.int (2147483647 : Int32)), (.int p2)])) _
      refine XS.iand X0.here hx rfl (hb hby at_13) rfl ?_
      show Steps p.tables e below (s₁.setTop (mkF m 14 #[.val (.long q1), .second, .val (.int p2), .val (.int p3), .unset, .unset, .unset, .unset, .unset, .unset, .unset, .unset, .unset] [(.int (p2 &&& (2147483647 : Int32)))])) _
      refine XS.bipush X0.here hx rfl (hb hby at_14) ?_
      show Steps p.tables e below (s₁.setTop (mkF m 16 #[.val (.long q1), .second, .val (.int p2), .val (.int p3), .unset, .unset, .unset, .unset, .unset, .unset, .unset, .unset, .unset] [(.int (70 : Int32)), (.int (p2 &&& (2147483647 : Int32)))])) _
      refine XS.irem X0.here hx rfl (hb hby at_16) rfl (by decide) ?_
      show Steps p.tables e below (s₁.setTop (mkF m 17 #[.val (.long q1), .second, .val (.int p2), .val (.int p3), .unset, .unset, .unset, .unset, .unset, .unset, .unset, .unset, .unset] [(.int ((p2 &&& (2147483647 : Int32)) - ((p2 &&& (2147483647 : Int32)) / (70 : Int32)) * (70 : Int32)))])) _
      refine XS.iconst X0.here hx rfl (hb hby at_17) ?_
      show Steps p.tables e below (s₁.setTop (mkF m 18 #[.val (.long q1), .second, .val (.int p2), .val (.int p3), .unset, .unset, .unset, .unset, .unset, .unset, .unset, .unset, .unset] [(.int (3 : Int32)), (.int ((p2 &&& (2147483647 : Int32)) - ((p2 &&& (2147483647 : Int32)) / (70 : Int32)) * (70 : Int32)))])) _
      refine XS.isub X0.here hx rfl (hb hby at_18) rfl ?_
      rw [show (j0_19_s0 q1 p2 p3) = (((p2 &&& (2147483647 : Int32)) - ((p2 &&& (2147483647 : Int32)) / (70 : Int32)) * (70 : Int32)) - (3 : Int32)) from (if_pos hc3_1)] at kt
      exact kt
    · refine XS.ifNo X0.here hx rfl (hb hby at_3) rfl ((if0 _ _).trans (feq hc3_1).1) ?_
      show Steps p.tables e below (s₁.setTop (mkF m 6 #[.val (.long q1), .second, .val (.int p2), .val (.int p3), .unset, .unset, .unset, .unset, .unset, .unset, .unset, .unset, .unset] [])) _
      refine XS.iloadN X0.here hx rfl (hb hby at_6) rfl ?_
      show Steps p.tables e below (s₁.setTop (mkF m 7 #[.val (.long q1), .second, .val (.int p2), .val (.int p3), .unset, .unset, .unset, .unset, .unset, .unset, .unset, .unset, .unset] [(.int p2)])) _
      refine XS.goto X0.here hx rfl (pc0 := 7) (pc' := 19) rfl (hb hby at_7) (by decide) (by decide) ?_
      rw [show (j0_19_s0 q1 p2 p3) = p2 from (if_neg hc3_1)] at kt
      exact kt
  have sg21_4 : ∀ t, Steps p.tables e below (s₁.setTop (mkF m 48 #[.val (.long q1), .second, .val (.int p2), .val (.int p3), .val (.int (j0_19_s0 q1 p2 p3)), .unset, .unset, .unset, .unset, .unset, .unset, .unset, .unset] [(.long (j0_48_s0 q1 p2 p3))])) t → Steps p.tables e below (s₁.setTop (mkF m 21 #[.val (.long q1), .second, .val (.int p2), .val (.int p3), .val (.int (j0_19_s0 q1 p2 p3)), .unset, .unset, .unset, .unset, .unset, .unset, .unset, .unset] [])) t := by
    intro t kt
    show Steps p.tables e below (s₁.setTop (mkF m 21 #[.val (.long q1), .second, .val (.int p2), .val (.int p3), .val (.int (j0_19_s0 q1 p2 p3)), .unset, .unset, .unset, .unset, .unset, .unset, .unset, .unset] [])) _
    refine XS.iloadN X0.here hx rfl (hb hby at_21) rfl ?_
    show Steps p.tables e below (s₁.setTop (mkF m 22 #[.val (.long q1), .second, .val (.int p2), .val (.int p3), .val (.int (j0_19_s0 q1 p2 p3)), .unset, .unset, .unset, .unset, .unset, .unset, .unset, .unset] [(.int p3)])) _
    refine XS.iconst X0.here hx rfl (hb hby at_22) ?_
    show Steps p.tables e below (s₁.setTop (mkF m 23 #[.val (.long q1), .second, .val (.int p2), .val (.int p3), .val (.int (j0_19_s0 q1 p2 p3)), .unset, .unset, .unset, .unset, .unset, .unset, .unset, .unset] [(.int (2 : Int32)), (.int p3)])) _
    refine XS.iand X0.here hx rfl (hb hby at_23) rfl ?_
    show Steps p.tables e below (s₁.setTop (mkF m 24 #[.val (.long q1), .second, .val (.int p2), .val (.int p3), .val (.int (j0_19_s0 q1 p2 p3)), .unset, .unset, .unset, .unset, .unset, .unset, .unset, .unset] [(.int (p3 &&& (2 : Int32)))])) _
    by_cases hc24_3 : (p3 &&& (2 : Int32)) = (0 : Int32)
    · refine XS.ifYes X0.here hx rfl (pc0 := 24) (pc' := 31) rfl (hb hby at_24) rfl ((if0 _ _).trans (teq hc24_3).1) (by decide) (by decide) ?_
      show Steps p.tables e below (s₁.setTop (mkF m 31 #[.val (.long q1), .second, .val (.int p2), .val (.int p3), .val (.int (j0_19_s0 q1 p2 p3)), .unset, .unset, .unset, .unset, .unset, .unset, .unset, .unset] [])) _
      refine X0.ldc2Long hx hown (mvT hZ (hw _ (List.mem_of_getElem? (i := 0) rfl))) (g := (mkF m 31 #[.val (.long q1), .second, .val (.int p2), .val (.int p3), .val (.int (j0_19_s0 q1 p2 p3)), .unset, .unset, .unset, .unset, .unset, .unset, .unset, .unset] [])) rfl (hb hby at_31) _ ?_
      show Steps p.tables e below (s₁.setTop (mkF m 34 #[.val (.long q1), .second, .val (.int p2), .val (.int p3), .val (.int (j0_19_s0 q1 p2 p3)), .unset, .unset, .unset, .unset, .unset, .unset, .unset, .unset] [(.long (3 : Int64))])) _
      refine XS.iload X0.here hx rfl (hb hby at_34) rfl ?_
      show Steps p.tables e below (s₁.setTop (mkF m 36 #[.val (.long q1), .second, .val (.int p2), .val (.int p3), .val (.int (j0_19_s0 q1 p2 p3)), .unset, .unset, .unset, .unset, .unset, .unset, .unset, .unset] [(.int (j0_19_s0 q1 p2 p3)), (.long (3 : Int64))])) _
      refine XS.iconst X0.here hx rfl (hb hby at_36) ?_
      show Steps p.tables e below (s₁.setTop (mkF m 37 #[.val (.long q1), .second, .val (.int p2), .val (.int p3), .val (.int (j0_19_s0 q1 p2 p3)), .unset, .unset, .unset, .unset, .unset, .unset, .unset, .unset] [(.int (2 : Int32)), (.int (j0_19_s0 q1 p2 p3)), (.long (3 : Int64))])) _
      refine XS.isub X0.here hx rfl (hb hby at_37) rfl ?_
      show Steps p.tables e below (s₁.setTop (mkF m 38 #[.val (.long q1), .second, .val (.int p2), .val (.int p3), .val (.int (j0_19_s0 q1 p2 p3)), .unset, .unset, .unset, .unset, .unset, .unset, .unset, .unset] [(.int ((j0_19_s0 q1 p2 p3) - (2 : Int32))), (.long (3 : Int64))])) _
      refine XS.bipush X0.here hx rfl (hb hby at_38) ?_
      show Steps p.tables e below (s₁.setTop (mkF m 40 #[.val (.long q1), .second, .val (.int p2), .val (.int p3), .val (.int (j0_19_s0 q1 p2 p3)), .unset, .unset, .unset, .unset, .unset, .unset, .unset, .unset] [(.int (63 : Int32)), (.int ((j0_19_s0 q1 p2 p3) - (2 : Int32))), (.long (3 : Int64))])) _
      refine XS.iand X0.here hx rfl (hb hby at_40) rfl ?_
      show Steps p.tables e below (s₁.setTop (mkF m 41 #[.val (.long q1), .second, .val (.int p2), .val (.int p3), .val (.int (j0_19_s0 q1 p2 p3)), .unset, .unset, .unset, .unset, .unset, .unset, .unset, .unset] [(.int (((j0_19_s0 q1 p2 p3) - (2 : Int32)) &&& (63 : Int32))), (.long (3 : Int64))])) _
      refine XS.lshl X0.here hx rfl (hb hby at_41) rfl ?_
      show Steps p.tables e below (s₁.setTop (mkF m 42 #[.val (.long q1), .second, .val (.int p2), .val (.int p3), .val (.int (j0_19_s0 q1 p2 p3)), .unset, .unset, .unset, .unset, .unset, .unset, .unset, .unset] [(.long ((3 : Int64) <<< ((((j0_19_s0 q1 p2 p3) - (2 : Int32)) &&& (63 : Int32)) &&& 0x3f).toInt64))])) _
      refine XS.lloadN X0.here hx rfl (hb hby at_42) rfl ?_
      show Steps p.tables e below (s₁.setTop (mkF m 43 #[.val (.long q1), .second, .val (.int p2), .val (.int p3), .val (.int (j0_19_s0 q1 p2 p3)), .unset, .unset, .unset, .unset, .unset, .unset, .unset, .unset] [(.long q1), (.long ((3 : Int64) <<< ((((j0_19_s0 q1 p2 p3) - (2 : Int32)) &&& (63 : Int32)) &&& 0x3f).toInt64))])) _
      refine X0.ldc2Long hx hown (mvT hZ (hw _ (List.mem_of_getElem? (i := 0) rfl))) (g := (mkF m 43 #[.val (.long q1), .second, .val (.int p2), .val (.int p3), .val (.int (j0_19_s0 q1 p2 p3)), .unset, .unset, .unset, .unset, .unset, .unset, .unset, .unset] [(.long q1), (.long ((3 : Int64) <<< ((((j0_19_s0 q1 p2 p3) - (2 : Int32)) &&& (63 : Int32)) &&& 0x3f).toInt64))])) rfl (hb hby at_43) _ ?_
      show Steps p.tables e below (s₁.setTop (mkF m 46 #[.val (.long q1), .second, .val (.int p2), .val (.int p3), .val (.int (j0_19_s0 q1 p2 p3)), .unset, .unset, .unset, .unset, .unset, .unset, .unset, .unset] [(.long (3 : Int64)), (.long q1), (.long ((3 : Int64) <<< ((((j0_19_s0 q1 p2 p3) - (2 : Int32)) &&& (63 : Int32)) &&& 0x3f).toInt64))])) _
      refine XS.lrem X0.here hx rfl (hb hby at_46) rfl (by decide) ?_
      show Steps p.tables e below (s₁.setTop (mkF m 47 #[.val (.long q1), .second, .val (.int p2), .val (.int p3), .val (.int (j0_19_s0 q1 p2 p3)), .unset, .unset, .unset, .unset, .unset, .unset, .unset, .unset] [(.long (q1 - (q1 / (3 : Int64)) * (3 : Int64))), (.long ((3 : Int64) <<< ((((j0_19_s0 q1 p2 p3) - (2 : Int32)) &&& (63 : Int32)) &&& 0x3f).toInt64))])) _
      refine XS.ladd X0.here hx rfl (hb hby at_47) rfl ?_
      rw [show (j0_48_s0 q1 p2 p3) = (((3 : Int64) <<< ((((j0_19_s0 q1 p2 p3) - (2 : Int32)) &&& (63 : Int32)) &&& 0x3f).toInt64) + (q1 - (q1 / (3 : Int64)) * (3 : Int64))) from (if_pos hc24_3)] at kt
      exact kt
    · refine XS.ifNo X0.here hx rfl (hb hby at_24) rfl ((if0 _ _).trans (feq hc24_3).1) ?_
      show Steps p.tables e below (s₁.setTop (mkF m 27 #[.val (.long q1), .second, .val (.int p2), .val (.int p3), .val (.int (j0_19_s0 q1 p2 p3)), .unset, .unset, .unset, .unset, .unset, .unset, .unset, .unset] [])) _
      refine XS.lloadN X0.here hx rfl (hb hby at_27) rfl ?_
      show Steps p.tables e below (s₁.setTop (mkF m 28 #[.val (.long q1), .second, .val (.int p2), .val (.int p3), .val (.int (j0_19_s0 q1 p2 p3)), .unset, .unset, .unset, .unset, .unset, .unset, .unset, .unset] [(.long q1)])) _
      refine XS.goto X0.here hx rfl (pc0 := 28) (pc' := 48) rfl (hb hby at_28) (by decide) (by decide) ?_
      rw [show (j0_48_s0 q1 p2 p3) = q1 from (if_neg hc24_3)] at kt
      exact kt
  have sg50_10 : ∀ t, Steps p.tables e below (s₁.setTop (mkF m 126 #[.val (.long q1), .second, .val (.int p2), .val (.int p3), .val (.int (j0_19_s0 q1 p2 p3)), .val (.long (j0_48_s0 q1 p2 p3)), .second, .val (.int (j0_126_l7 q1 p2 p3)), (j0_126_l8 q1 p2 p3), (j0_126_l9 q1 p2 p3), (j0_126_l10 q1 p2 p3), (j0_126_l11 q1 p2 p3), (j0_126_l12 q1 p2 p3)] [])) t → Steps p.tables e below (s₁.setTop (mkF m 50 #[.val (.long q1), .second, .val (.int p2), .val (.int p3), .val (.int (j0_19_s0 q1 p2 p3)), .val (.long (j0_48_s0 q1 p2 p3)), .second, .unset, .unset, .unset, .unset, .unset, .unset] [])) t := by
    intro t kt
    show Steps p.tables e below (s₁.setTop (mkF m 50 #[.val (.long q1), .second, .val (.int p2), .val (.int p3), .val (.int (j0_19_s0 q1 p2 p3)), .val (.long (j0_48_s0 q1 p2 p3)), .second, .unset, .unset, .unset, .unset, .unset, .unset] [])) _
    refine XS.iload X0.here hx rfl (hb hby at_50) rfl ?_
    show Steps p.tables e below (s₁.setTop (mkF m 52 #[.val (.long q1), .second, .val (.int p2), .val (.int p3), .val (.int (j0_19_s0 q1 p2 p3)), .val (.long (j0_48_s0 q1 p2 p3)), .second, .unset, .unset, .unset, .unset, .unset, .unset] [(.int (j0_19_s0 q1 p2 p3))])) _
    refine XS.bipush X0.here hx rfl (hb hby at_52) ?_
    show Steps p.tables e below (s₁.setTop (mkF m 54 #[.val (.long q1), .second, .val (.int p2), .val (.int p3), .val (.int (j0_19_s0 q1 p2 p3)), .val (.long (j0_48_s0 q1 p2 p3)), .second, .unset, .unset, .unset, .unset, .unset, .unset] [(.int (24 : Int32)), (.int (j0_19_s0 q1 p2 p3))])) _
    by_cases hc54_5 : (j0_19_s0 q1 p2 p3) < (24 : Int32)
    · refine XS.icmpYes X0.here hx rfl (pc0 := 54) (pc' := 64) rfl (hb hby at_54) rfl (tlt hc54_5).1 (by decide) (by decide) ?_
      show Steps p.tables e below (s₁.setTop (mkF m 64 #[.val (.long q1), .second, .val (.int p2), .val (.int p3), .val (.int (j0_19_s0 q1 p2 p3)), .val (.long (j0_48_s0 q1 p2 p3)), .second, .unset, .unset, .unset, .unset, .unset, .unset] [])) _
      refine XS.iconst X0.here hx rfl (hb hby at_64) ?_
      show Steps p.tables e below (s₁.setTop (mkF m 65 #[.val (.long q1), .second, .val (.int p2), .val (.int p3), .val (.int (j0_19_s0 q1 p2 p3)), .val (.long (j0_48_s0 q1 p2 p3)), .second, .unset, .unset, .unset, .unset, .unset, .unset] [(.int (0 : Int32))])) _
      refine XS.istore X0.here hx rfl (hb hby at_65) rfl (l' := #[.val (.long q1), .second, .val (.int p2), .val (.int p3), .val (.int (j0_19_s0 q1 p2 p3)), .val (.long (j0_48_s0 q1 p2 p3)), .second, .val (.int (0 : Int32)), .unset, .unset, .unset, .unset, .unset]) rfl ?_
      show Steps p.tables e below (s₁.setTop (mkF m 67 #[.val (.long q1), .second, .val (.int p2), .val (.int p3), .val (.int (j0_19_s0 q1 p2 p3)), .val (.long (j0_48_s0 q1 p2 p3)), .second, .val (.int (0 : Int32)), .unset, .unset, .unset, .unset, .unset] [])) _
      refine XS.goto X0.here hx rfl (pc0 := 67) (pc' := 126) rfl (hb hby at_67) (by decide) (by decide) ?_
      rw [show (j0_126_l7 q1 p2 p3) = (0 : Int32) from (if_pos hc54_5)] at kt
      rw [show (j0_126_l8 q1 p2 p3) = .unset from (if_pos hc54_5)] at kt
      rw [show (j0_126_l9 q1 p2 p3) = .unset from (if_pos hc54_5)] at kt
      rw [show (j0_126_l10 q1 p2 p3) = .unset from (if_pos hc54_5)] at kt
      rw [show (j0_126_l11 q1 p2 p3) = .unset from (if_pos hc54_5)] at kt
      rw [show (j0_126_l12 q1 p2 p3) = .unset from (if_pos hc54_5)] at kt
      exact kt
    · refine XS.icmpNo X0.here hx rfl (hb hby at_54) rfl (flt hc54_5).1 ?_
      show Steps p.tables e below (s₁.setTop (mkF m 57 #[.val (.long q1), .second, .val (.int p2), .val (.int p3), .val (.int (j0_19_s0 q1 p2 p3)), .val (.long (j0_48_s0 q1 p2 p3)), .second, .unset, .unset, .unset, .unset, .unset, .unset] [])) _
      refine XS.iload X0.here hx rfl (hb hby at_57) rfl ?_
      show Steps p.tables e below (s₁.setTop (mkF m 59 #[.val (.long q1), .second, .val (.int p2), .val (.int p3), .val (.int (j0_19_s0 q1 p2 p3)), .val (.long (j0_48_s0 q1 p2 p3)), .second, .unset, .unset, .unset, .unset, .unset, .unset] [(.int (j0_19_s0 q1 p2 p3))])) _
      refine XS.bipush X0.here hx rfl (hb hby at_59) ?_
      show Steps p.tables e below (s₁.setTop (mkF m 61 #[.val (.long q1), .second, .val (.int p2), .val (.int p3), .val (.int (j0_19_s0 q1 p2 p3)), .val (.long (j0_48_s0 q1 p2 p3)), .second, .unset, .unset, .unset, .unset, .unset, .unset] [(.int (62 : Int32)), (.int (j0_19_s0 q1 p2 p3))])) _
      by_cases hc61_6 : (62 : Int32) < (j0_19_s0 q1 p2 p3)
      · refine XS.icmpNo X0.here hx rfl (hb hby at_61) rfl (tlt hc61_6).2.2.2 ?_
        show Steps p.tables e below (s₁.setTop (mkF m 64 #[.val (.long q1), .second, .val (.int p2), .val (.int p3), .val (.int (j0_19_s0 q1 p2 p3)), .val (.long (j0_48_s0 q1 p2 p3)), .second, .unset, .unset, .unset, .unset, .unset, .unset] [])) _
        refine XS.iconst X0.here hx rfl (hb hby at_64) ?_
        show Steps p.tables e below (s₁.setTop (mkF m 65 #[.val (.long q1), .second, .val (.int p2), .val (.int p3), .val (.int (j0_19_s0 q1 p2 p3)), .val (.long (j0_48_s0 q1 p2 p3)), .second, .unset, .unset, .unset, .unset, .unset, .unset] [(.int (0 : Int32))])) _
        refine XS.istore X0.here hx rfl (hb hby at_65) rfl (l' := #[.val (.long q1), .second, .val (.int p2), .val (.int p3), .val (.int (j0_19_s0 q1 p2 p3)), .val (.long (j0_48_s0 q1 p2 p3)), .second, .val (.int (0 : Int32)), .unset, .unset, .unset, .unset, .unset]) rfl ?_
        show Steps p.tables e below (s₁.setTop (mkF m 67 #[.val (.long q1), .second, .val (.int p2), .val (.int p3), .val (.int (j0_19_s0 q1 p2 p3)), .val (.long (j0_48_s0 q1 p2 p3)), .second, .val (.int (0 : Int32)), .unset, .unset, .unset, .unset, .unset] [])) _
        refine XS.goto X0.here hx rfl (pc0 := 67) (pc' := 126) rfl (hb hby at_67) (by decide) (by decide) ?_
        rw [show (j0_126_l7 q1 p2 p3) = (0 : Int32) from ((if_neg hc54_5).trans (if_pos hc61_6))] at kt
        rw [show (j0_126_l8 q1 p2 p3) = .unset from ((if_neg hc54_5).trans (if_pos hc61_6))] at kt
        rw [show (j0_126_l9 q1 p2 p3) = .unset from ((if_neg hc54_5).trans (if_pos hc61_6))] at kt
        rw [show (j0_126_l10 q1 p2 p3) = .unset from ((if_neg hc54_5).trans (if_pos hc61_6))] at kt
        rw [show (j0_126_l11 q1 p2 p3) = .unset from ((if_neg hc54_5).trans (if_pos hc61_6))] at kt
        rw [show (j0_126_l12 q1 p2 p3) = .unset from ((if_neg hc54_5).trans (if_pos hc61_6))] at kt
        exact kt
      · refine XS.icmpYes X0.here hx rfl (pc0 := 61) (pc' := 70) rfl (hb hby at_61) rfl (flt hc61_6).2.2.2 (by decide) (by decide) ?_
        show Steps p.tables e below (s₁.setTop (mkF m 70 #[.val (.long q1), .second, .val (.int p2), .val (.int p3), .val (.int (j0_19_s0 q1 p2 p3)), .val (.long (j0_48_s0 q1 p2 p3)), .second, .unset, .unset, .unset, .unset, .unset, .unset] [])) _
        refine XS.iload X0.here hx rfl (hb hby at_70) rfl ?_
        show Steps p.tables e below (s₁.setTop (mkF m 72 #[.val (.long q1), .second, .val (.int p2), .val (.int p3), .val (.int (j0_19_s0 q1 p2 p3)), .val (.long (j0_48_s0 q1 p2 p3)), .second, .unset, .unset, .unset, .unset, .unset, .unset] [(.int (j0_19_s0 q1 p2 p3))])) _
        refine XS.iconst X0.here hx rfl (hb hby at_72) ?_
        show Steps p.tables e below (s₁.setTop (mkF m 73 #[.val (.long q1), .second, .val (.int p2), .val (.int p3), .val (.int (j0_19_s0 q1 p2 p3)), .val (.long (j0_48_s0 q1 p2 p3)), .second, .unset, .unset, .unset, .unset, .unset, .unset] [(.int (2 : Int32)), (.int (j0_19_s0 q1 p2 p3))])) _
        refine XS.isub X0.here hx rfl (hb hby at_73) rfl ?_
        show Steps p.tables e below (s₁.setTop (mkF m 74 #[.val (.long q1), .second, .val (.int p2), .val (.int p3), .val (.int (j0_19_s0 q1 p2 p3)), .val (.long (j0_48_s0 q1 p2 p3)), .second, .unset, .unset, .unset, .unset, .unset, .unset] [(.int ((j0_19_s0 q1 p2 p3) - (2 : Int32)))])) _
        refine XS.istore X0.here hx rfl (hb hby at_74) rfl (l' := #[.val (.long q1), .second, .val (.int p2), .val (.int p3), .val (.int (j0_19_s0 q1 p2 p3)), .val (.long (j0_48_s0 q1 p2 p3)), .second, .unset, .val (.int ((j0_19_s0 q1 p2 p3) - (2 : Int32))), .unset, .unset, .unset, .unset]) rfl ?_
        show Steps p.tables e below (s₁.setTop (mkF m 76 #[.val (.long q1), .second, .val (.int p2), .val (.int p3), .val (.int (j0_19_s0 q1 p2 p3)), .val (.long (j0_48_s0 q1 p2 p3)), .second, .unset, .val (.int ((j0_19_s0 q1 p2 p3) - (2 : Int32))), .unset, .unset, .unset, .unset] [])) _
        refine XS.lload X0.here hx rfl (hb hby at_76) rfl ?_
        show Steps p.tables e below (s₁.setTop (mkF m 78 #[.val (.long q1), .second, .val (.int p2), .val (.int p3), .val (.int (j0_19_s0 q1 p2 p3)), .val (.long (j0_48_s0 q1 p2 p3)), .second, .unset, .val (.int ((j0_19_s0 q1 p2 p3) - (2 : Int32))), .unset, .unset, .unset, .unset] [(.long (j0_48_s0 q1 p2 p3))])) _
        refine XS.iload X0.here hx rfl (hb hby at_78) rfl ?_
        show Steps p.tables e below (s₁.setTop (mkF m 80 #[.val (.long q1), .second, .val (.int p2), .val (.int p3), .val (.int (j0_19_s0 q1 p2 p3)), .val (.long (j0_48_s0 q1 p2 p3)), .second, .unset, .val (.int ((j0_19_s0 q1 p2 p3) - (2 : Int32))), .unset, .unset, .unset, .unset] [(.int ((j0_19_s0 q1 p2 p3) - (2 : Int32))), (.long (j0_48_s0 q1 p2 p3))])) _
        refine XS.lshr X0.here hx rfl (hb hby at_80) rfl ?_
        show Steps p.tables e below (s₁.setTop (mkF m 81 #[.val (.long q1), .second, .val (.int p2), .val (.int p3), .val (.int (j0_19_s0 q1 p2 p3)), .val (.long (j0_48_s0 q1 p2 p3)), .second, .unset, .val (.int ((j0_19_s0 q1 p2 p3) - (2 : Int32))), .unset, .unset, .unset, .unset] [(.long ((j0_48_s0 q1 p2 p3) >>> (((j0_19_s0 q1 p2 p3) - (2 : Int32)) &&& 0x3f).toInt64))])) _
        refine XS.lstore X0.here hx rfl (hb hby at_81) rfl (l' := #[.val (.long q1), .second, .val (.int p2), .val (.int p3), .val (.int (j0_19_s0 q1 p2 p3)), .val (.long (j0_48_s0 q1 p2 p3)), .second, .unset, .val (.int ((j0_19_s0 q1 p2 p3) - (2 : Int32))), .val (.long ((j0_48_s0 q1 p2 p3) >>> (((j0_19_s0 q1 p2 p3) - (2 : Int32)) &&& 0x3f).toInt64)), .second, .unset, .unset]) rfl ?_
        show Steps p.tables e below (s₁.setTop (mkF m 83 #[.val (.long q1), .second, .val (.int p2), .val (.int p3), .val (.int (j0_19_s0 q1 p2 p3)), .val (.long (j0_48_s0 q1 p2 p3)), .second, .unset, .val (.int ((j0_19_s0 q1 p2 p3) - (2 : Int32))), .val (.long ((j0_48_s0 q1 p2 p3) >>> (((j0_19_s0 q1 p2 p3) - (2 : Int32)) &&& 0x3f).toInt64)), .second, .unset, .unset] [])) _
        refine XS.lload X0.here hx rfl (hb hby at_83) rfl ?_
        show Steps p.tables e below (s₁.setTop (mkF m 85 #[.val (.long q1), .second, .val (.int p2), .val (.int p3), .val (.int (j0_19_s0 q1 p2 p3)), .val (.long (j0_48_s0 q1 p2 p3)), .second, .unset, .val (.int ((j0_19_s0 q1 p2 p3) - (2 : Int32))), .val (.long ((j0_48_s0 q1 p2 p3) >>> (((j0_19_s0 q1 p2 p3) - (2 : Int32)) &&& 0x3f).toInt64)), .second, .unset, .unset] [(.long (j0_48_s0 q1 p2 p3))])) _
        refine XS.lconst X0.here hx rfl (hb hby at_85) ?_
        show Steps p.tables e below (s₁.setTop (mkF m 86 #[.val (.long q1), .second, .val (.int p2), .val (.int p3), .val (.int (j0_19_s0 q1 p2 p3)), .val (.long (j0_48_s0 q1 p2 p3)), .second, .unset, .val (.int ((j0_19_s0 q1 p2 p3) - (2 : Int32))), .val (.long ((j0_48_s0 q1 p2 p3) >>> (((j0_19_s0 q1 p2 p3) - (2 : Int32)) &&& 0x3f).toInt64)), .second, .unset, .unset] [(.long (1 : Int64)), (.long (j0_48_s0 q1 p2 p3))])) _
        refine XS.iload X0.here hx rfl (hb hby at_86) rfl ?_
        show Steps p.tables e below (s₁.setTop (mkF m 88 #[.val (.long q1), .second, .val (.int p2), .val (.int p3), .val (.int (j0_19_s0 q1 p2 p3)), .val (.long (j0_48_s0 q1 p2 p3)), .second, .unset, .val (.int ((j0_19_s0 q1 p2 p3) - (2 : Int32))), .val (.long ((j0_48_s0 q1 p2 p3) >>> (((j0_19_s0 q1 p2 p3) - (2 : Int32)) &&& 0x3f).toInt64)), .second, .unset, .unset] [(.int ((j0_19_s0 q1 p2 p3) - (2 : Int32))), (.long (1 : Int64)), (.long (j0_48_s0 q1 p2 p3))])) _
        refine XS.lshl X0.here hx rfl (hb hby at_88) rfl ?_
        show Steps p.tables e below (s₁.setTop (mkF m 89 #[.val (.long q1), .second, .val (.int p2), .val (.int p3), .val (.int (j0_19_s0 q1 p2 p3)), .val (.long (j0_48_s0 q1 p2 p3)), .second, .unset, .val (.int ((j0_19_s0 q1 p2 p3) - (2 : Int32))), .val (.long ((j0_48_s0 q1 p2 p3) >>> (((j0_19_s0 q1 p2 p3) - (2 : Int32)) &&& 0x3f).toInt64)), .second, .unset, .unset] [(.long ((1 : Int64) <<< (((j0_19_s0 q1 p2 p3) - (2 : Int32)) &&& 0x3f).toInt64)), (.long (j0_48_s0 q1 p2 p3))])) _
        refine XS.lconst X0.here hx rfl (hb hby at_89) ?_
        show Steps p.tables e below (s₁.setTop (mkF m 90 #[.val (.long q1), .second, .val (.int p2), .val (.int p3), .val (.int (j0_19_s0 q1 p2 p3)), .val (.long (j0_48_s0 q1 p2 p3)), .second, .unset, .val (.int ((j0_19_s0 q1 p2 p3) - (2 : Int32))), .val (.long ((j0_48_s0 q1 p2 p3) >>> (((j0_19_s0 q1 p2 p3) - (2 : Int32)) &&& 0x3f).toInt64)), .second, .unset, .unset] [(.long (1 : Int64)), (.long ((1 : Int64) <<< (((j0_19_s0 q1 p2 p3) - (2 : Int32)) &&& 0x3f).toInt64)), (.long (j0_48_s0 q1 p2 p3))])) _
        refine XS.lsub X0.here hx rfl (hb hby at_90) rfl ?_
        show Steps p.tables e below (s₁.setTop (mkF m 91 #[.val (.long q1), .second, .val (.int p2), .val (.int p3), .val (.int (j0_19_s0 q1 p2 p3)), .val (.long (j0_48_s0 q1 p2 p3)), .second, .unset, .val (.int ((j0_19_s0 q1 p2 p3) - (2 : Int32))), .val (.long ((j0_48_s0 q1 p2 p3) >>> (((j0_19_s0 q1 p2 p3) - (2 : Int32)) &&& 0x3f).toInt64)), .second, .unset, .unset] [(.long (((1 : Int64) <<< (((j0_19_s0 q1 p2 p3) - (2 : Int32)) &&& 0x3f).toInt64) - (1 : Int64))), (.long (j0_48_s0 q1 p2 p3))])) _
        refine XS.land X0.here hx rfl (hb hby at_91) rfl ?_
        show Steps p.tables e below (s₁.setTop (mkF m 92 #[.val (.long q1), .second, .val (.int p2), .val (.int p3), .val (.int (j0_19_s0 q1 p2 p3)), .val (.long (j0_48_s0 q1 p2 p3)), .second, .unset, .val (.int ((j0_19_s0 q1 p2 p3) - (2 : Int32))), .val (.long ((j0_48_s0 q1 p2 p3) >>> (((j0_19_s0 q1 p2 p3) - (2 : Int32)) &&& 0x3f).toInt64)), .second, .unset, .unset] [(.long ((j0_48_s0 q1 p2 p3) &&& (((1 : Int64) <<< (((j0_19_s0 q1 p2 p3) - (2 : Int32)) &&& 0x3f).toInt64) - (1 : Int64))))])) _
        refine XS.lstore X0.here hx rfl (hb hby at_92) rfl (l' := #[.val (.long q1), .second, .val (.int p2), .val (.int p3), .val (.int (j0_19_s0 q1 p2 p3)), .val (.long (j0_48_s0 q1 p2 p3)), .second, .unset, .val (.int ((j0_19_s0 q1 p2 p3) - (2 : Int32))), .val (.long ((j0_48_s0 q1 p2 p3) >>> (((j0_19_s0 q1 p2 p3) - (2 : Int32)) &&& 0x3f).toInt64)), .second, .val (.long ((j0_48_s0 q1 p2 p3) &&& (((1 : Int64) <<< (((j0_19_s0 q1 p2 p3) - (2 : Int32)) &&& 0x3f).toInt64) - (1 : Int64)))), .second]) rfl ?_
        show Steps p.tables e below (s₁.setTop (mkF m 94 #[.val (.long q1), .second, .val (.int p2), .val (.int p3), .val (.int (j0_19_s0 q1 p2 p3)), .val (.long (j0_48_s0 q1 p2 p3)), .second, .unset, .val (.int ((j0_19_s0 q1 p2 p3) - (2 : Int32))), .val (.long ((j0_48_s0 q1 p2 p3) >>> (((j0_19_s0 q1 p2 p3) - (2 : Int32)) &&& 0x3f).toInt64)), .second, .val (.long ((j0_48_s0 q1 p2 p3) &&& (((1 : Int64) <<< (((j0_19_s0 q1 p2 p3) - (2 : Int32)) &&& 0x3f).toInt64) - (1 : Int64)))), .second] [])) _
        refine XS.lload X0.here hx rfl (hb hby at_94) rfl ?_
        show Steps p.tables e below (s₁.setTop (mkF m 96 #[.val (.long q1), .second, .val (.int p2), .val (.int p3), .val (.int (j0_19_s0 q1 p2 p3)), .val (.long (j0_48_s0 q1 p2 p3)), .second, .unset, .val (.int ((j0_19_s0 q1 p2 p3) - (2 : Int32))), .val (.long ((j0_48_s0 q1 p2 p3) >>> (((j0_19_s0 q1 p2 p3) - (2 : Int32)) &&& 0x3f).toInt64)), .second, .val (.long ((j0_48_s0 q1 p2 p3) &&& (((1 : Int64) <<< (((j0_19_s0 q1 p2 p3) - (2 : Int32)) &&& 0x3f).toInt64) - (1 : Int64)))), .second] [(.long ((j0_48_s0 q1 p2 p3) >>> (((j0_19_s0 q1 p2 p3) - (2 : Int32)) &&& 0x3f).toInt64))])) _
        refine X0.ldc2Long hx hown (mvT hZ (hw _ (List.mem_of_getElem? (i := 0) rfl))) (g := (mkF m 96 #[.val (.long q1), .second, .val (.int p2), .val (.int p3), .val (.int (j0_19_s0 q1 p2 p3)), .val (.long (j0_48_s0 q1 p2 p3)), .second, .unset, .val (.int ((j0_19_s0 q1 p2 p3) - (2 : Int32))), .val (.long ((j0_48_s0 q1 p2 p3) >>> (((j0_19_s0 q1 p2 p3) - (2 : Int32)) &&& 0x3f).toInt64)), .second, .val (.long ((j0_48_s0 q1 p2 p3) &&& (((1 : Int64) <<< (((j0_19_s0 q1 p2 p3) - (2 : Int32)) &&& 0x3f).toInt64) - (1 : Int64)))), .second] [(.long ((j0_48_s0 q1 p2 p3) >>> (((j0_19_s0 q1 p2 p3) - (2 : Int32)) &&& 0x3f).toInt64))])) rfl (hb hby at_96) _ ?_
        show Steps p.tables e below (s₁.setTop (mkF m 99 #[.val (.long q1), .second, .val (.int p2), .val (.int p3), .val (.int (j0_19_s0 q1 p2 p3)), .val (.long (j0_48_s0 q1 p2 p3)), .second, .unset, .val (.int ((j0_19_s0 q1 p2 p3) - (2 : Int32))), .val (.long ((j0_48_s0 q1 p2 p3) >>> (((j0_19_s0 q1 p2 p3) - (2 : Int32)) &&& 0x3f).toInt64)), .second, .val (.long ((j0_48_s0 q1 p2 p3) &&& (((1 : Int64) <<< (((j0_19_s0 q1 p2 p3) - (2 : Int32)) &&& 0x3f).toInt64) - (1 : Int64)))), .second] [(.long (3 : Int64)), (.long ((j0_48_s0 q1 p2 p3) >>> (((j0_19_s0 q1 p2 p3) - (2 : Int32)) &&& 0x3f).toInt64))])) _
        refine XS.lcmp X0.here hx rfl (hb hby at_99) rfl ?_
        show Steps p.tables e below (s₁.setTop (mkF m 100 #[.val (.long q1), .second, .val (.int p2), .val (.int p3), .val (.int (j0_19_s0 q1 p2 p3)), .val (.long (j0_48_s0 q1 p2 p3)), .second, .unset, .val (.int ((j0_19_s0 q1 p2 p3) - (2 : Int32))), .val (.long ((j0_48_s0 q1 p2 p3) >>> (((j0_19_s0 q1 p2 p3) - (2 : Int32)) &&& 0x3f).toInt64)), .second, .val (.long ((j0_48_s0 q1 p2 p3) &&& (((1 : Int64) <<< (((j0_19_s0 q1 p2 p3) - (2 : Int32)) &&& 0x3f).toInt64) - (1 : Int64)))), .second] [(.int (lcmpW ((j0_48_s0 q1 p2 p3) >>> (((j0_19_s0 q1 p2 p3) - (2 : Int32)) &&& 0x3f).toInt64) (3 : Int64)))])) _
        by_cases hc100_7 : (lcmpW ((j0_48_s0 q1 p2 p3) >>> (((j0_19_s0 q1 p2 p3) - (2 : Int32)) &&& 0x3f).toInt64) (3 : Int64)) < (0 : Int32)
        · refine XS.ifYes X0.here hx rfl (pc0 := 100) (pc' := 119) rfl (hb hby at_100) rfl ((if0 _ _).trans (tlt hc100_7).1) (by decide) (by decide) ?_
          show Steps p.tables e below (s₁.setTop (mkF m 119 #[.val (.long q1), .second, .val (.int p2), .val (.int p3), .val (.int (j0_19_s0 q1 p2 p3)), .val (.long (j0_48_s0 q1 p2 p3)), .second, .unset, .val (.int ((j0_19_s0 q1 p2 p3) - (2 : Int32))), .val (.long ((j0_48_s0 q1 p2 p3) >>> (((j0_19_s0 q1 p2 p3) - (2 : Int32)) &&& 0x3f).toInt64)), .second, .val (.long ((j0_48_s0 q1 p2 p3) &&& (((1 : Int64) <<< (((j0_19_s0 q1 p2 p3) - (2 : Int32)) &&& 0x3f).toInt64) - (1 : Int64)))), .second] [])) _
          refine XS.iconst X0.here hx rfl (hb hby at_119) ?_
          show Steps p.tables e below (s₁.setTop (mkF m 120 #[.val (.long q1), .second, .val (.int p2), .val (.int p3), .val (.int (j0_19_s0 q1 p2 p3)), .val (.long (j0_48_s0 q1 p2 p3)), .second, .unset, .val (.int ((j0_19_s0 q1 p2 p3) - (2 : Int32))), .val (.long ((j0_48_s0 q1 p2 p3) >>> (((j0_19_s0 q1 p2 p3) - (2 : Int32)) &&& 0x3f).toInt64)), .second, .val (.long ((j0_48_s0 q1 p2 p3) &&& (((1 : Int64) <<< (((j0_19_s0 q1 p2 p3) - (2 : Int32)) &&& 0x3f).toInt64) - (1 : Int64)))), .second] [(.int (1 : Int32))])) _
          refine XS.goto X0.here hx rfl (pc0 := 120) (pc' := 124) rfl (hb hby at_120) (by decide) (by decide) ?_
          show Steps p.tables e below (s₁.setTop (mkF m 124 #[.val (.long q1), .second, .val (.int p2), .val (.int p3), .val (.int (j0_19_s0 q1 p2 p3)), .val (.long (j0_48_s0 q1 p2 p3)), .second, .unset, .val (.int ((j0_19_s0 q1 p2 p3) - (2 : Int32))), .val (.long ((j0_48_s0 q1 p2 p3) >>> (((j0_19_s0 q1 p2 p3) - (2 : Int32)) &&& 0x3f).toInt64)), .second, .val (.long ((j0_48_s0 q1 p2 p3) &&& (((1 : Int64) <<< (((j0_19_s0 q1 p2 p3) - (2 : Int32)) &&& 0x3f).toInt64) - (1 : Int64)))), .second] [(.int (1 : Int32))])) _
          refine XS.istore X0.here hx rfl (hb hby at_124) rfl (l' := #[.val (.long q1), .second, .val (.int p2), .val (.int p3), .val (.int (j0_19_s0 q1 p2 p3)), .val (.long (j0_48_s0 q1 p2 p3)), .second, .val (.int (1 : Int32)), .val (.int ((j0_19_s0 q1 p2 p3) - (2 : Int32))), .val (.long ((j0_48_s0 q1 p2 p3) >>> (((j0_19_s0 q1 p2 p3) - (2 : Int32)) &&& 0x3f).toInt64)), .second, .val (.long ((j0_48_s0 q1 p2 p3) &&& (((1 : Int64) <<< (((j0_19_s0 q1 p2 p3) - (2 : Int32)) &&& 0x3f).toInt64) - (1 : Int64)))), .second]) rfl ?_
          rw [show (j0_126_l7 q1 p2 p3) = (1 : Int32) from ((if_neg hc54_5).trans ((if_neg hc61_6).trans (if_pos hc100_7)))] at kt
          rw [show (j0_126_l8 q1 p2 p3) = .val (.int ((j0_19_s0 q1 p2 p3) - (2 : Int32))) from ((if_neg hc54_5).trans ((if_neg hc61_6).trans (if_pos hc100_7)))] at kt
          rw [show (j0_126_l9 q1 p2 p3) = .val (.long ((j0_48_s0 q1 p2 p3) >>> (((j0_19_s0 q1 p2 p3) - (2 : Int32)) &&& 0x3f).toInt64)) from ((if_neg hc54_5).trans ((if_neg hc61_6).trans (if_pos hc100_7)))] at kt
          rw [show (j0_126_l10 q1 p2 p3) = .second from ((if_neg hc54_5).trans ((if_neg hc61_6).trans (if_pos hc100_7)))] at kt
          rw [show (j0_126_l11 q1 p2 p3) = .val (.long ((j0_48_s0 q1 p2 p3) &&& (((1 : Int64) <<< (((j0_19_s0 q1 p2 p3) - (2 : Int32)) &&& 0x3f).toInt64) - (1 : Int64)))) from ((if_neg hc54_5).trans ((if_neg hc61_6).trans (if_pos hc100_7)))] at kt
          rw [show (j0_126_l12 q1 p2 p3) = .second from ((if_neg hc54_5).trans ((if_neg hc61_6).trans (if_pos hc100_7)))] at kt
          exact kt
        · refine XS.ifNo X0.here hx rfl (hb hby at_100) rfl ((if0 _ _).trans (flt hc100_7).1) ?_
          show Steps p.tables e below (s₁.setTop (mkF m 103 #[.val (.long q1), .second, .val (.int p2), .val (.int p3), .val (.int (j0_19_s0 q1 p2 p3)), .val (.long (j0_48_s0 q1 p2 p3)), .second, .unset, .val (.int ((j0_19_s0 q1 p2 p3) - (2 : Int32))), .val (.long ((j0_48_s0 q1 p2 p3) >>> (((j0_19_s0 q1 p2 p3) - (2 : Int32)) &&& 0x3f).toInt64)), .second, .val (.long ((j0_48_s0 q1 p2 p3) &&& (((1 : Int64) <<< (((j0_19_s0 q1 p2 p3) - (2 : Int32)) &&& 0x3f).toInt64) - (1 : Int64)))), .second] [])) _
          refine XS.lload X0.here hx rfl (hb hby at_103) rfl ?_
          show Steps p.tables e below (s₁.setTop (mkF m 105 #[.val (.long q1), .second, .val (.int p2), .val (.int p3), .val (.int (j0_19_s0 q1 p2 p3)), .val (.long (j0_48_s0 q1 p2 p3)), .second, .unset, .val (.int ((j0_19_s0 q1 p2 p3) - (2 : Int32))), .val (.long ((j0_48_s0 q1 p2 p3) >>> (((j0_19_s0 q1 p2 p3) - (2 : Int32)) &&& 0x3f).toInt64)), .second, .val (.long ((j0_48_s0 q1 p2 p3) &&& (((1 : Int64) <<< (((j0_19_s0 q1 p2 p3) - (2 : Int32)) &&& 0x3f).toInt64) - (1 : Int64)))), .second] [(.long ((j0_48_s0 q1 p2 p3) >>> (((j0_19_s0 q1 p2 p3) - (2 : Int32)) &&& 0x3f).toInt64))])) _
          refine X0.ldc2Long hx hown (mvT hZ (hw _ (List.mem_of_getElem? (i := 0) rfl))) (g := (mkF m 105 #[.val (.long q1), .second, .val (.int p2), .val (.int p3), .val (.int (j0_19_s0 q1 p2 p3)), .val (.long (j0_48_s0 q1 p2 p3)), .second, .unset, .val (.int ((j0_19_s0 q1 p2 p3) - (2 : Int32))), .val (.long ((j0_48_s0 q1 p2 p3) >>> (((j0_19_s0 q1 p2 p3) - (2 : Int32)) &&& 0x3f).toInt64)), .second, .val (.long ((j0_48_s0 q1 p2 p3) &&& (((1 : Int64) <<< (((j0_19_s0 q1 p2 p3) - (2 : Int32)) &&& 0x3f).toInt64) - (1 : Int64)))), .second] [(.long ((j0_48_s0 q1 p2 p3) >>> (((j0_19_s0 q1 p2 p3) - (2 : Int32)) &&& 0x3f).toInt64))])) rfl (hb hby at_105) _ ?_
          show Steps p.tables e below (s₁.setTop (mkF m 108 #[.val (.long q1), .second, .val (.int p2), .val (.int p3), .val (.int (j0_19_s0 q1 p2 p3)), .val (.long (j0_48_s0 q1 p2 p3)), .second, .unset, .val (.int ((j0_19_s0 q1 p2 p3) - (2 : Int32))), .val (.long ((j0_48_s0 q1 p2 p3) >>> (((j0_19_s0 q1 p2 p3) - (2 : Int32)) &&& 0x3f).toInt64)), .second, .val (.long ((j0_48_s0 q1 p2 p3) &&& (((1 : Int64) <<< (((j0_19_s0 q1 p2 p3) - (2 : Int32)) &&& 0x3f).toInt64) - (1 : Int64)))), .second] [(.long (3 : Int64)), (.long ((j0_48_s0 q1 p2 p3) >>> (((j0_19_s0 q1 p2 p3) - (2 : Int32)) &&& 0x3f).toInt64))])) _
          refine XS.lcmp X0.here hx rfl (hb hby at_108) rfl ?_
          show Steps p.tables e below (s₁.setTop (mkF m 109 #[.val (.long q1), .second, .val (.int p2), .val (.int p3), .val (.int (j0_19_s0 q1 p2 p3)), .val (.long (j0_48_s0 q1 p2 p3)), .second, .unset, .val (.int ((j0_19_s0 q1 p2 p3) - (2 : Int32))), .val (.long ((j0_48_s0 q1 p2 p3) >>> (((j0_19_s0 q1 p2 p3) - (2 : Int32)) &&& 0x3f).toInt64)), .second, .val (.long ((j0_48_s0 q1 p2 p3) &&& (((1 : Int64) <<< (((j0_19_s0 q1 p2 p3) - (2 : Int32)) &&& 0x3f).toInt64) - (1 : Int64)))), .second] [(.int (lcmpW ((j0_48_s0 q1 p2 p3) >>> (((j0_19_s0 q1 p2 p3) - (2 : Int32)) &&& 0x3f).toInt64) (3 : Int64)))])) _
          by_cases hc109_8 : (lcmpW ((j0_48_s0 q1 p2 p3) >>> (((j0_19_s0 q1 p2 p3) - (2 : Int32)) &&& 0x3f).toInt64) (3 : Int64)) = (0 : Int32)
          · refine XS.ifNo X0.here hx rfl (hb hby at_109) rfl ((if0 _ _).trans (teq hc109_8).2) ?_
            show Steps p.tables e below (s₁.setTop (mkF m 112 #[.val (.long q1), .second, .val (.int p2), .val (.int p3), .val (.int (j0_19_s0 q1 p2 p3)), .val (.long (j0_48_s0 q1 p2 p3)), .second, .unset, .val (.int ((j0_19_s0 q1 p2 p3) - (2 : Int32))), .val (.long ((j0_48_s0 q1 p2 p3) >>> (((j0_19_s0 q1 p2 p3) - (2 : Int32)) &&& 0x3f).toInt64)), .second, .val (.long ((j0_48_s0 q1 p2 p3) &&& (((1 : Int64) <<< (((j0_19_s0 q1 p2 p3) - (2 : Int32)) &&& 0x3f).toInt64) - (1 : Int64)))), .second] [])) _
            refine XS.lload X0.here hx rfl (hb hby at_112) rfl ?_
            show Steps p.tables e below (s₁.setTop (mkF m 114 #[.val (.long q1), .second, .val (.int p2), .val (.int p3), .val (.int (j0_19_s0 q1 p2 p3)), .val (.long (j0_48_s0 q1 p2 p3)), .second, .unset, .val (.int ((j0_19_s0 q1 p2 p3) - (2 : Int32))), .val (.long ((j0_48_s0 q1 p2 p3) >>> (((j0_19_s0 q1 p2 p3) - (2 : Int32)) &&& 0x3f).toInt64)), .second, .val (.long ((j0_48_s0 q1 p2 p3) &&& (((1 : Int64) <<< (((j0_19_s0 q1 p2 p3) - (2 : Int32)) &&& 0x3f).toInt64) - (1 : Int64)))), .second] [(.long ((j0_48_s0 q1 p2 p3) &&& (((1 : Int64) <<< (((j0_19_s0 q1 p2 p3) - (2 : Int32)) &&& 0x3f).toInt64) - (1 : Int64))))])) _
            refine XS.lconst X0.here hx rfl (hb hby at_114) ?_
            show Steps p.tables e below (s₁.setTop (mkF m 115 #[.val (.long q1), .second, .val (.int p2), .val (.int p3), .val (.int (j0_19_s0 q1 p2 p3)), .val (.long (j0_48_s0 q1 p2 p3)), .second, .unset, .val (.int ((j0_19_s0 q1 p2 p3) - (2 : Int32))), .val (.long ((j0_48_s0 q1 p2 p3) >>> (((j0_19_s0 q1 p2 p3) - (2 : Int32)) &&& 0x3f).toInt64)), .second, .val (.long ((j0_48_s0 q1 p2 p3) &&& (((1 : Int64) <<< (((j0_19_s0 q1 p2 p3) - (2 : Int32)) &&& 0x3f).toInt64) - (1 : Int64)))), .second] [(.long (0 : Int64)), (.long ((j0_48_s0 q1 p2 p3) &&& (((1 : Int64) <<< (((j0_19_s0 q1 p2 p3) - (2 : Int32)) &&& 0x3f).toInt64) - (1 : Int64))))])) _
            refine XS.lcmp X0.here hx rfl (hb hby at_115) rfl ?_
            show Steps p.tables e below (s₁.setTop (mkF m 116 #[.val (.long q1), .second, .val (.int p2), .val (.int p3), .val (.int (j0_19_s0 q1 p2 p3)), .val (.long (j0_48_s0 q1 p2 p3)), .second, .unset, .val (.int ((j0_19_s0 q1 p2 p3) - (2 : Int32))), .val (.long ((j0_48_s0 q1 p2 p3) >>> (((j0_19_s0 q1 p2 p3) - (2 : Int32)) &&& 0x3f).toInt64)), .second, .val (.long ((j0_48_s0 q1 p2 p3) &&& (((1 : Int64) <<< (((j0_19_s0 q1 p2 p3) - (2 : Int32)) &&& 0x3f).toInt64) - (1 : Int64)))), .second] [(.int (lcmpW ((j0_48_s0 q1 p2 p3) &&& (((1 : Int64) <<< (((j0_19_s0 q1 p2 p3) - (2 : Int32)) &&& 0x3f).toInt64) - (1 : Int64))) (0 : Int64)))])) _
            by_cases hc116_9 : (lcmpW ((j0_48_s0 q1 p2 p3) &&& (((1 : Int64) <<< (((j0_19_s0 q1 p2 p3) - (2 : Int32)) &&& 0x3f).toInt64) - (1 : Int64))) (0 : Int64)) = (0 : Int32)
            · refine XS.ifNo X0.here hx rfl (hb hby at_116) rfl ((if0 _ _).trans (teq hc116_9).2) ?_
              show Steps p.tables e below (s₁.setTop (mkF m 119 #[.val (.long q1), .second, .val (.int p2), .val (.int p3), .val (.int (j0_19_s0 q1 p2 p3)), .val (.long (j0_48_s0 q1 p2 p3)), .second, .unset, .val (.int ((j0_19_s0 q1 p2 p3) - (2 : Int32))), .val (.long ((j0_48_s0 q1 p2 p3) >>> (((j0_19_s0 q1 p2 p3) - (2 : Int32)) &&& 0x3f).toInt64)), .second, .val (.long ((j0_48_s0 q1 p2 p3) &&& (((1 : Int64) <<< (((j0_19_s0 q1 p2 p3) - (2 : Int32)) &&& 0x3f).toInt64) - (1 : Int64)))), .second] [])) _
              refine XS.iconst X0.here hx rfl (hb hby at_119) ?_
              show Steps p.tables e below (s₁.setTop (mkF m 120 #[.val (.long q1), .second, .val (.int p2), .val (.int p3), .val (.int (j0_19_s0 q1 p2 p3)), .val (.long (j0_48_s0 q1 p2 p3)), .second, .unset, .val (.int ((j0_19_s0 q1 p2 p3) - (2 : Int32))), .val (.long ((j0_48_s0 q1 p2 p3) >>> (((j0_19_s0 q1 p2 p3) - (2 : Int32)) &&& 0x3f).toInt64)), .second, .val (.long ((j0_48_s0 q1 p2 p3) &&& (((1 : Int64) <<< (((j0_19_s0 q1 p2 p3) - (2 : Int32)) &&& 0x3f).toInt64) - (1 : Int64)))), .second] [(.int (1 : Int32))])) _
              refine XS.goto X0.here hx rfl (pc0 := 120) (pc' := 124) rfl (hb hby at_120) (by decide) (by decide) ?_
              show Steps p.tables e below (s₁.setTop (mkF m 124 #[.val (.long q1), .second, .val (.int p2), .val (.int p3), .val (.int (j0_19_s0 q1 p2 p3)), .val (.long (j0_48_s0 q1 p2 p3)), .second, .unset, .val (.int ((j0_19_s0 q1 p2 p3) - (2 : Int32))), .val (.long ((j0_48_s0 q1 p2 p3) >>> (((j0_19_s0 q1 p2 p3) - (2 : Int32)) &&& 0x3f).toInt64)), .second, .val (.long ((j0_48_s0 q1 p2 p3) &&& (((1 : Int64) <<< (((j0_19_s0 q1 p2 p3) - (2 : Int32)) &&& 0x3f).toInt64) - (1 : Int64)))), .second] [(.int (1 : Int32))])) _
              refine XS.istore X0.here hx rfl (hb hby at_124) rfl (l' := #[.val (.long q1), .second, .val (.int p2), .val (.int p3), .val (.int (j0_19_s0 q1 p2 p3)), .val (.long (j0_48_s0 q1 p2 p3)), .second, .val (.int (1 : Int32)), .val (.int ((j0_19_s0 q1 p2 p3) - (2 : Int32))), .val (.long ((j0_48_s0 q1 p2 p3) >>> (((j0_19_s0 q1 p2 p3) - (2 : Int32)) &&& 0x3f).toInt64)), .second, .val (.long ((j0_48_s0 q1 p2 p3) &&& (((1 : Int64) <<< (((j0_19_s0 q1 p2 p3) - (2 : Int32)) &&& 0x3f).toInt64) - (1 : Int64)))), .second]) rfl ?_
              rw [show (j0_126_l7 q1 p2 p3) = (1 : Int32) from ((if_neg hc54_5).trans ((if_neg hc61_6).trans ((if_neg hc100_7).trans ((if_pos hc109_8).trans (if_pos hc116_9)))))] at kt
              rw [show (j0_126_l8 q1 p2 p3) = .val (.int ((j0_19_s0 q1 p2 p3) - (2 : Int32))) from ((if_neg hc54_5).trans ((if_neg hc61_6).trans ((if_neg hc100_7).trans ((if_pos hc109_8).trans (if_pos hc116_9)))))] at kt
              rw [show (j0_126_l9 q1 p2 p3) = .val (.long ((j0_48_s0 q1 p2 p3) >>> (((j0_19_s0 q1 p2 p3) - (2 : Int32)) &&& 0x3f).toInt64)) from ((if_neg hc54_5).trans ((if_neg hc61_6).trans ((if_neg hc100_7).trans ((if_pos hc109_8).trans (if_pos hc116_9)))))] at kt
              rw [show (j0_126_l10 q1 p2 p3) = .second from ((if_neg hc54_5).trans ((if_neg hc61_6).trans ((if_neg hc100_7).trans ((if_pos hc109_8).trans (if_pos hc116_9)))))] at kt
              rw [show (j0_126_l11 q1 p2 p3) = .val (.long ((j0_48_s0 q1 p2 p3) &&& (((1 : Int64) <<< (((j0_19_s0 q1 p2 p3) - (2 : Int32)) &&& 0x3f).toInt64) - (1 : Int64)))) from ((if_neg hc54_5).trans ((if_neg hc61_6).trans ((if_neg hc100_7).trans ((if_pos hc109_8).trans (if_pos hc116_9)))))] at kt
              rw [show (j0_126_l12 q1 p2 p3) = .second from ((if_neg hc54_5).trans ((if_neg hc61_6).trans ((if_neg hc100_7).trans ((if_pos hc109_8).trans (if_pos hc116_9)))))] at kt
              exact kt
            · refine XS.ifYes X0.here hx rfl (pc0 := 116) (pc' := 123) rfl (hb hby at_116) rfl ((if0 _ _).trans (feq hc116_9).2) (by decide) (by decide) ?_
              show Steps p.tables e below (s₁.setTop (mkF m 123 #[.val (.long q1), .second, .val (.int p2), .val (.int p3), .val (.int (j0_19_s0 q1 p2 p3)), .val (.long (j0_48_s0 q1 p2 p3)), .second, .unset, .val (.int ((j0_19_s0 q1 p2 p3) - (2 : Int32))), .val (.long ((j0_48_s0 q1 p2 p3) >>> (((j0_19_s0 q1 p2 p3) - (2 : Int32)) &&& 0x3f).toInt64)), .second, .val (.long ((j0_48_s0 q1 p2 p3) &&& (((1 : Int64) <<< (((j0_19_s0 q1 p2 p3) - (2 : Int32)) &&& 0x3f).toInt64) - (1 : Int64)))), .second] [])) _
              refine XS.iconst X0.here hx rfl (hb hby at_123) ?_
              show Steps p.tables e below (s₁.setTop (mkF m 124 #[.val (.long q1), .second, .val (.int p2), .val (.int p3), .val (.int (j0_19_s0 q1 p2 p3)), .val (.long (j0_48_s0 q1 p2 p3)), .second, .unset, .val (.int ((j0_19_s0 q1 p2 p3) - (2 : Int32))), .val (.long ((j0_48_s0 q1 p2 p3) >>> (((j0_19_s0 q1 p2 p3) - (2 : Int32)) &&& 0x3f).toInt64)), .second, .val (.long ((j0_48_s0 q1 p2 p3) &&& (((1 : Int64) <<< (((j0_19_s0 q1 p2 p3) - (2 : Int32)) &&& 0x3f).toInt64) - (1 : Int64)))), .second] [(.int (0 : Int32))])) _
              refine XS.istore X0.here hx rfl (hb hby at_124) rfl (l' := #[.val (.long q1), .second, .val (.int p2), .val (.int p3), .val (.int (j0_19_s0 q1 p2 p3)), .val (.long (j0_48_s0 q1 p2 p3)), .second, .val (.int (0 : Int32)), .val (.int ((j0_19_s0 q1 p2 p3) - (2 : Int32))), .val (.long ((j0_48_s0 q1 p2 p3) >>> (((j0_19_s0 q1 p2 p3) - (2 : Int32)) &&& 0x3f).toInt64)), .second, .val (.long ((j0_48_s0 q1 p2 p3) &&& (((1 : Int64) <<< (((j0_19_s0 q1 p2 p3) - (2 : Int32)) &&& 0x3f).toInt64) - (1 : Int64)))), .second]) rfl ?_
              rw [show (j0_126_l7 q1 p2 p3) = (0 : Int32) from ((if_neg hc54_5).trans ((if_neg hc61_6).trans ((if_neg hc100_7).trans ((if_pos hc109_8).trans (if_neg hc116_9)))))] at kt
              rw [show (j0_126_l8 q1 p2 p3) = .val (.int ((j0_19_s0 q1 p2 p3) - (2 : Int32))) from ((if_neg hc54_5).trans ((if_neg hc61_6).trans ((if_neg hc100_7).trans ((if_pos hc109_8).trans (if_neg hc116_9)))))] at kt
              rw [show (j0_126_l9 q1 p2 p3) = .val (.long ((j0_48_s0 q1 p2 p3) >>> (((j0_19_s0 q1 p2 p3) - (2 : Int32)) &&& 0x3f).toInt64)) from ((if_neg hc54_5).trans ((if_neg hc61_6).trans ((if_neg hc100_7).trans ((if_pos hc109_8).trans (if_neg hc116_9)))))] at kt
              rw [show (j0_126_l10 q1 p2 p3) = .second from ((if_neg hc54_5).trans ((if_neg hc61_6).trans ((if_neg hc100_7).trans ((if_pos hc109_8).trans (if_neg hc116_9)))))] at kt
              rw [show (j0_126_l11 q1 p2 p3) = .val (.long ((j0_48_s0 q1 p2 p3) &&& (((1 : Int64) <<< (((j0_19_s0 q1 p2 p3) - (2 : Int32)) &&& 0x3f).toInt64) - (1 : Int64)))) from ((if_neg hc54_5).trans ((if_neg hc61_6).trans ((if_neg hc100_7).trans ((if_pos hc109_8).trans (if_neg hc116_9)))))] at kt
              rw [show (j0_126_l12 q1 p2 p3) = .second from ((if_neg hc54_5).trans ((if_neg hc61_6).trans ((if_neg hc100_7).trans ((if_pos hc109_8).trans (if_neg hc116_9)))))] at kt
              exact kt
          · refine XS.ifYes X0.here hx rfl (pc0 := 109) (pc' := 123) rfl (hb hby at_109) rfl ((if0 _ _).trans (feq hc109_8).2) (by decide) (by decide) ?_
            show Steps p.tables e below (s₁.setTop (mkF m 123 #[.val (.long q1), .second, .val (.int p2), .val (.int p3), .val (.int (j0_19_s0 q1 p2 p3)), .val (.long (j0_48_s0 q1 p2 p3)), .second, .unset, .val (.int ((j0_19_s0 q1 p2 p3) - (2 : Int32))), .val (.long ((j0_48_s0 q1 p2 p3) >>> (((j0_19_s0 q1 p2 p3) - (2 : Int32)) &&& 0x3f).toInt64)), .second, .val (.long ((j0_48_s0 q1 p2 p3) &&& (((1 : Int64) <<< (((j0_19_s0 q1 p2 p3) - (2 : Int32)) &&& 0x3f).toInt64) - (1 : Int64)))), .second] [])) _
            refine XS.iconst X0.here hx rfl (hb hby at_123) ?_
            show Steps p.tables e below (s₁.setTop (mkF m 124 #[.val (.long q1), .second, .val (.int p2), .val (.int p3), .val (.int (j0_19_s0 q1 p2 p3)), .val (.long (j0_48_s0 q1 p2 p3)), .second, .unset, .val (.int ((j0_19_s0 q1 p2 p3) - (2 : Int32))), .val (.long ((j0_48_s0 q1 p2 p3) >>> (((j0_19_s0 q1 p2 p3) - (2 : Int32)) &&& 0x3f).toInt64)), .second, .val (.long ((j0_48_s0 q1 p2 p3) &&& (((1 : Int64) <<< (((j0_19_s0 q1 p2 p3) - (2 : Int32)) &&& 0x3f).toInt64) - (1 : Int64)))), .second] [(.int (0 : Int32))])) _
            refine XS.istore X0.here hx rfl (hb hby at_124) rfl (l' := #[.val (.long q1), .second, .val (.int p2), .val (.int p3), .val (.int (j0_19_s0 q1 p2 p3)), .val (.long (j0_48_s0 q1 p2 p3)), .second, .val (.int (0 : Int32)), .val (.int ((j0_19_s0 q1 p2 p3) - (2 : Int32))), .val (.long ((j0_48_s0 q1 p2 p3) >>> (((j0_19_s0 q1 p2 p3) - (2 : Int32)) &&& 0x3f).toInt64)), .second, .val (.long ((j0_48_s0 q1 p2 p3) &&& (((1 : Int64) <<< (((j0_19_s0 q1 p2 p3) - (2 : Int32)) &&& 0x3f).toInt64) - (1 : Int64)))), .second]) rfl ?_
            rw [show (j0_126_l7 q1 p2 p3) = (0 : Int32) from ((if_neg hc54_5).trans ((if_neg hc61_6).trans ((if_neg hc100_7).trans (if_neg hc109_8))))] at kt
            rw [show (j0_126_l8 q1 p2 p3) = .val (.int ((j0_19_s0 q1 p2 p3) - (2 : Int32))) from ((if_neg hc54_5).trans ((if_neg hc61_6).trans ((if_neg hc100_7).trans (if_neg hc109_8))))] at kt
            rw [show (j0_126_l9 q1 p2 p3) = .val (.long ((j0_48_s0 q1 p2 p3) >>> (((j0_19_s0 q1 p2 p3) - (2 : Int32)) &&& 0x3f).toInt64)) from ((if_neg hc54_5).trans ((if_neg hc61_6).trans ((if_neg hc100_7).trans (if_neg hc109_8))))] at kt
            rw [show (j0_126_l10 q1 p2 p3) = .second from ((if_neg hc54_5).trans ((if_neg hc61_6).trans ((if_neg hc100_7).trans (if_neg hc109_8))))] at kt
            rw [show (j0_126_l11 q1 p2 p3) = .val (.long ((j0_48_s0 q1 p2 p3) &&& (((1 : Int64) <<< (((j0_19_s0 q1 p2 p3) - (2 : Int32)) &&& 0x3f).toInt64) - (1 : Int64)))) from ((if_neg hc54_5).trans ((if_neg hc61_6).trans ((if_neg hc100_7).trans (if_neg hc109_8))))] at kt
            rw [show (j0_126_l12 q1 p2 p3) = .second from ((if_neg hc54_5).trans ((if_neg hc61_6).trans ((if_neg hc100_7).trans (if_neg hc109_8))))] at kt
            exact kt
  obtain ⟨_, _, ⟨T11, L11, k11, n11⟩, -, X11, ⟨Lc11, hQ11, l11, y11, z11⟩, st11⟩ := Jvm.LawKit.callS X0 hx (y := (⟨"com/example/visits_per_key/visitsperkey/store/Packing", "holds", "(JI)Z"⟩ : MethodName)) hown (mvT hZ (hw _ (List.mem_of_getElem? (i := 1) rfl))) (mvT hZ (hw _ (List.mem_of_getElem? (i := 2) rfl))) (mvT hZ (hw _ (List.mem_of_getElem? (i := 3) rfl))) (mvT hZ (hw _ (List.mem_of_getElem? (i := 4) rfl))) (by decide) (backOf (W := 0) (rm1 l Z a0 hw [] (j0_48_s0 q1 p2 p3) (j0_19_s0 q1 p2 p3) h0 n0 Z0) hZ (hw _ (List.mem_of_getElem? (i := 4) rfl)) (hw _ (List.mem_of_getElem? (i := 3) rfl)) (by decide) (by decide)) (g := (mkF m 130 #[.val (.long q1), .second, .val (.int p2), .val (.int p3), .val (.int (j0_19_s0 q1 p2 p3)), .val (.long (j0_48_s0 q1 p2 p3)), .second, .val (.int (j0_126_l7 q1 p2 p3)), (j0_126_l8 q1 p2 p3), (j0_126_l9 q1 p2 p3), (j0_126_l10 q1 p2 p3), (j0_126_l11 q1 p2 p3), (j0_126_l12 q1 p2 p3)] [(.int (j0_19_s0 q1 p2 p3)), (.long (j0_48_s0 q1 p2 p3))])) rfl (by rw [hml]; rfl) (argsL := [(.long (j0_48_s0 q1 p2 p3)), (.int (j0_19_s0 q1 p2 p3))]) (rest := []) (lenOf pd_0 rfl) rfl (by show 2 * 0 + _ ≤ _; exact Nat.le_of_eq rfl) (hb hby at_130) (fun _ _ => ⟨rfl, e0, (by decide : 0 + 0 ≤ _), (by decide : 0 + 0 ≤ _)⟩)
  dsimp only [Pt.U, Pt.locs, Pt.cells, Pt.slots] at X11 l11 y11 z11 st11 hQ11
  subst l11 y11 z11
  obtain ⟨rfl, N11q, e11⟩ := hQ11
  have N11 := Fr.app N0 N11q
  have sg133_13 : ∀ t, Steps p.tables e below (T11.setTop (mkF m 143 #[.val (.long q1), .second, .val (.int p2), .val (.int p3), .val (.int (j0_19_s0 q1 p2 p3)), .val (.long (j0_48_s0 q1 p2 p3)), .second, .val (.int (j0_126_l7 q1 p2 p3)), (j0_126_l8 q1 p2 p3), (j0_126_l9 q1 p2 p3), (j0_126_l10 q1 p2 p3), (j0_126_l11 q1 p2 p3), (j0_126_l12 q1 p2 p3)] [(.int (j0_143_s0 q1 p2 p3))])) t → Steps p.tables e below (T11.setTop (mkF m 133 #[.val (.long q1), .second, .val (.int p2), .val (.int p3), .val (.int (j0_19_s0 q1 p2 p3)), .val (.long (j0_48_s0 q1 p2 p3)), .second, .val (.int (j0_126_l7 q1 p2 p3)), (j0_126_l8 q1 p2 p3), (j0_126_l9 q1 p2 p3), (j0_126_l10 q1 p2 p3), (j0_126_l11 q1 p2 p3), (j0_126_l12 q1 p2 p3)] [(.int (v1 (j0_48_s0 q1 p2 p3) (j0_19_s0 q1 p2 p3)))])) t := by
    intro t kt
    show Steps p.tables e below (T11.setTop (mkF m 133 #[.val (.long q1), .second, .val (.int p2), .val (.int p3), .val (.int (j0_19_s0 q1 p2 p3)), .val (.long (j0_48_s0 q1 p2 p3)), .second, .val (.int (j0_126_l7 q1 p2 p3)), (j0_126_l8 q1 p2 p3), (j0_126_l9 q1 p2 p3), (j0_126_l10 q1 p2 p3), (j0_126_l11 q1 p2 p3), (j0_126_l12 q1 p2 p3)] [(.int (v1 (j0_48_s0 q1 p2 p3) (j0_19_s0 q1 p2 p3)))])) _
    refine XS.iload X11.here hx rfl (hb hby at_133) rfl ?_
    show Steps p.tables e below (T11.setTop (mkF m 135 #[.val (.long q1), .second, .val (.int p2), .val (.int p3), .val (.int (j0_19_s0 q1 p2 p3)), .val (.long (j0_48_s0 q1 p2 p3)), .second, .val (.int (j0_126_l7 q1 p2 p3)), (j0_126_l8 q1 p2 p3), (j0_126_l9 q1 p2 p3), (j0_126_l10 q1 p2 p3), (j0_126_l11 q1 p2 p3), (j0_126_l12 q1 p2 p3)] [(.int (j0_126_l7 q1 p2 p3)), (.int (v1 (j0_48_s0 q1 p2 p3) (j0_19_s0 q1 p2 p3)))])) _
    by_cases hc135_12 : (v1 (j0_48_s0 q1 p2 p3) (j0_19_s0 q1 p2 p3)) = (j0_126_l7 q1 p2 p3)
    · refine XS.icmpNo X11.here hx rfl (hb hby at_135) rfl (teq hc135_12).2 ?_
      show Steps p.tables e below (T11.setTop (mkF m 138 #[.val (.long q1), .second, .val (.int p2), .val (.int p3), .val (.int (j0_19_s0 q1 p2 p3)), .val (.long (j0_48_s0 q1 p2 p3)), .second, .val (.int (j0_126_l7 q1 p2 p3)), (j0_126_l8 q1 p2 p3), (j0_126_l9 q1 p2 p3), (j0_126_l10 q1 p2 p3), (j0_126_l11 q1 p2 p3), (j0_126_l12 q1 p2 p3)] [])) _
      refine XS.iconst X11.here hx rfl (hb hby at_138) ?_
      show Steps p.tables e below (T11.setTop (mkF m 139 #[.val (.long q1), .second, .val (.int p2), .val (.int p3), .val (.int (j0_19_s0 q1 p2 p3)), .val (.long (j0_48_s0 q1 p2 p3)), .second, .val (.int (j0_126_l7 q1 p2 p3)), (j0_126_l8 q1 p2 p3), (j0_126_l9 q1 p2 p3), (j0_126_l10 q1 p2 p3), (j0_126_l11 q1 p2 p3), (j0_126_l12 q1 p2 p3)] [(.int (1 : Int32))])) _
      refine XS.goto X11.here hx rfl (pc0 := 139) (pc' := 143) rfl (hb hby at_139) (by decide) (by decide) ?_
      rw [show (j0_143_s0 q1 p2 p3) = (1 : Int32) from (if_pos hc135_12)] at kt
      exact kt
    · refine XS.icmpYes X11.here hx rfl (pc0 := 135) (pc' := 142) rfl (hb hby at_135) rfl (feq hc135_12).2 (by decide) (by decide) ?_
      show Steps p.tables e below (T11.setTop (mkF m 142 #[.val (.long q1), .second, .val (.int p2), .val (.int p3), .val (.int (j0_19_s0 q1 p2 p3)), .val (.long (j0_48_s0 q1 p2 p3)), .second, .val (.int (j0_126_l7 q1 p2 p3)), (j0_126_l8 q1 p2 p3), (j0_126_l9 q1 p2 p3), (j0_126_l10 q1 p2 p3), (j0_126_l11 q1 p2 p3), (j0_126_l12 q1 p2 p3)] [])) _
      refine XS.iconst X11.here hx rfl (hb hby at_142) ?_
      rw [show (j0_143_s0 q1 p2 p3) = (0 : Int32) from (if_neg hc135_12)] at kt
      exact kt
  have hnar : nar .boolean (j0_143_s0 q1 p2 p3) = (j0_143_s0 q1 p2 p3) := by
    unfold j0_143_s0
    repeat' split
    all_goals rfl
  obtain ⟨fs, hr, hrun, hended, hW, hsame⟩ := X11.leave (v := some (.int (j0_143_s0 q1 p2 p3))) (fun h => by rw [Bd.returns] at h; cases h)
  refine ⟨_, _, pre0 _ ?_, hrun, hended, _, _, rfl, ?_, ⟨_, rfl⟩, hW, hsame.mono (by decide) (by decide)⟩
  · show Steps p.tables e below (s₁.setTop (mkF m 0 #[.val (.long q1), .second, .val (.int p2), .val (.int p3), .unset, .unset, .unset, .unset, .unset, .unset, .unset, .unset, .unset] [])) _
    refine sg0_2 _ ?_
    show Steps p.tables e below (s₁.setTop (mkF m 19 #[.val (.long q1), .second, .val (.int p2), .val (.int p3), .unset, .unset, .unset, .unset, .unset, .unset, .unset, .unset, .unset] [(.int (j0_19_s0 q1 p2 p3))])) _
    refine XS.istore X0.here hx rfl (hb hby at_19) rfl (l' := #[.val (.long q1), .second, .val (.int p2), .val (.int p3), .val (.int (j0_19_s0 q1 p2 p3)), .unset, .unset, .unset, .unset, .unset, .unset, .unset, .unset]) rfl ?_
    show Steps p.tables e below (s₁.setTop (mkF m 21 #[.val (.long q1), .second, .val (.int p2), .val (.int p3), .val (.int (j0_19_s0 q1 p2 p3)), .unset, .unset, .unset, .unset, .unset, .unset, .unset, .unset] [])) _
    refine sg21_4 _ ?_
    show Steps p.tables e below (s₁.setTop (mkF m 48 #[.val (.long q1), .second, .val (.int p2), .val (.int p3), .val (.int (j0_19_s0 q1 p2 p3)), .unset, .unset, .unset, .unset, .unset, .unset, .unset, .unset] [(.long (j0_48_s0 q1 p2 p3))])) _
    refine XS.lstore X0.here hx rfl (hb hby at_48) rfl (l' := #[.val (.long q1), .second, .val (.int p2), .val (.int p3), .val (.int (j0_19_s0 q1 p2 p3)), .val (.long (j0_48_s0 q1 p2 p3)), .second, .unset, .unset, .unset, .unset, .unset, .unset]) rfl ?_
    show Steps p.tables e below (s₁.setTop (mkF m 50 #[.val (.long q1), .second, .val (.int p2), .val (.int p3), .val (.int (j0_19_s0 q1 p2 p3)), .val (.long (j0_48_s0 q1 p2 p3)), .second, .unset, .unset, .unset, .unset, .unset, .unset] [])) _
    refine sg50_10 _ ?_
    show Steps p.tables e below (s₁.setTop (mkF m 126 #[.val (.long q1), .second, .val (.int p2), .val (.int p3), .val (.int (j0_19_s0 q1 p2 p3)), .val (.long (j0_48_s0 q1 p2 p3)), .second, .val (.int (j0_126_l7 q1 p2 p3)), (j0_126_l8 q1 p2 p3), (j0_126_l9 q1 p2 p3), (j0_126_l10 q1 p2 p3), (j0_126_l11 q1 p2 p3), (j0_126_l12 q1 p2 p3)] [])) _
    refine XS.lload X0.here hx rfl (hb hby at_126) rfl ?_
    show Steps p.tables e below (s₁.setTop (mkF m 128 #[.val (.long q1), .second, .val (.int p2), .val (.int p3), .val (.int (j0_19_s0 q1 p2 p3)), .val (.long (j0_48_s0 q1 p2 p3)), .second, .val (.int (j0_126_l7 q1 p2 p3)), (j0_126_l8 q1 p2 p3), (j0_126_l9 q1 p2 p3), (j0_126_l10 q1 p2 p3), (j0_126_l11 q1 p2 p3), (j0_126_l12 q1 p2 p3)] [(.long (j0_48_s0 q1 p2 p3))])) _
    refine XS.iload X0.here hx rfl (hb hby at_128) rfl ?_
    show Steps p.tables e below (s₁.setTop (mkF m 130 #[.val (.long q1), .second, .val (.int p2), .val (.int p3), .val (.int (j0_19_s0 q1 p2 p3)), .val (.long (j0_48_s0 q1 p2 p3)), .second, .val (.int (j0_126_l7 q1 p2 p3)), (j0_126_l8 q1 p2 p3), (j0_126_l9 q1 p2 p3), (j0_126_l10 q1 p2 p3), (j0_126_l11 q1 p2 p3), (j0_126_l12 q1 p2 p3)] [(.int (j0_19_s0 q1 p2 p3)), (.long (j0_48_s0 q1 p2 p3))])) _
    refine st11 _ ?_
    show Steps p.tables e below (T11.setTop (mkF m 133 #[.val (.long q1), .second, .val (.int p2), .val (.int p3), .val (.int (j0_19_s0 q1 p2 p3)), .val (.long (j0_48_s0 q1 p2 p3)), .second, .val (.int (j0_126_l7 q1 p2 p3)), (j0_126_l8 q1 p2 p3), (j0_126_l9 q1 p2 p3), (j0_126_l10 q1 p2 p3), (j0_126_l11 q1 p2 p3), (j0_126_l12 q1 p2 p3)] [(.int (v1 (j0_48_s0 q1 p2 p3) (j0_19_s0 q1 p2 p3)))])) _
    refine sg133_13 _ ?_
    show Steps p.tables e below (T11.setTop (mkF m 143 #[.val (.long q1), .second, .val (.int p2), .val (.int p3), .val (.int (j0_19_s0 q1 p2 p3)), .val (.long (j0_48_s0 q1 p2 p3)), .second, .val (.int (j0_126_l7 q1 p2 p3)), (j0_126_l8 q1 p2 p3), (j0_126_l9 q1 p2 p3), (j0_126_l10 q1 p2 p3), (j0_126_l11 q1 p2 p3), (j0_126_l12 q1 p2 p3)] [(.int (j0_143_s0 q1 p2 p3))])) _
    exact retN X11 hx (t := .boolean) Bd.returns (by simp) (hb hby at_143) (by rw [hnar]; exact hr)
  · show Q0 Z q1 p2 p3 h0 n0 _ T11.heap _
    rw [e11]
    exact ⟨rfl, N11, trivial⟩
theorem own_sh : ∀ n < 64, ((Int32.ofNat n &&& 0x3f).toInt64.toBitVec.smod 64).toNat = n := by decide +kernel
/-- the two sides, for a shift K in its bounds -/
theorem own_core (hh : Int64) (K : Nat) (h1 : 22 ≤ K) (h2 : K ≤ 60) (s1 s2 : Int64) (hs1 : (s1.toBitVec.smod 64).toNat = K) (hs2 : (s2.toBitVec.smod 64).toNat = K + 2) :
    (if (0 : Int32) < lcmpW hh ((((1 : Int64) <<< s2) / (4 : Int64)) * (3 : Int64)) then (0 : Int32) else 1) =
    (if lcmpW (hh >>> s1) (3 : Int64) < (0 : Int32) then (1 : Int32) else if lcmpW (hh >>> s1) (3 : Int64) = (0 : Int32) then (if lcmpW (hh &&& (((1 : Int64) <<< s1) - (1 : Int64))) (0 : Int64) = (0 : Int32) then (1 : Int32) else 0) else 0) := by
  have t0 : (0 : Int64).toInt = 0 := by decide
  have t1 : (1 : Int64).toInt = 1 := by decide
  have t3 : (3 : Int64).toInt = 3 := by decide
  have t4 : (4 : Int64).toInt = 4 := by decide
  obtain ⟨P, hP⟩ : ∃ P : Int, P = 2 ^ K := ⟨_, rfl⟩
  have hPn : ((2 ^ K : Nat) : Int) = P := by rw [hP]; simp
  have hP1 : 0 < P := by rw [← hPn]; exact_mod_cast Nat.two_pow_pos K
  have hP2 : P ≤ 2 ^ 60 := by rw [← hPn]; exact_mod_cast Nat.pow_le_pow_right (by decide) h2
  have hP4 : (2 : Int) ^ (K + 2) = 4 * P := by rw [Int.pow_succ, Int.pow_succ, ← hP]; omega
  have a1 : ((1 : Int64) <<< s2).toInt = 4 * P := by
    rw [Jvm.Kit.i64_shl _ _ hs2 (by rw [t1, hP4]; omega) (by rw [t1, hP4]; omega), t1, hP4]; omega
  have a2 : (((1 : Int64) <<< s2) / (4 : Int64)).toInt = P := by
    rw [Jvm.Kit.i64_div (by rw [t4]; omega), a1, t4, Int.tdiv_eq_ediv_of_nonneg (by omega)]; omega
  have a3 : ((((1 : Int64) <<< s2) / (4 : Int64)) * (3 : Int64)).toInt = 3 * P := by
    rw [Jvm.Kit.i64_mul (by rw [a2, t3]; omega) (by rw [a2, t3]; omega), a2, t3]; omega
  have b1 : (hh >>> s1).toInt = hh.toInt / P := by rw [Jvm.Kit.i64_shr _ _ hs1, hP]
  have c1 : ((1 : Int64) <<< s1).toInt = P := by
    rw [Jvm.Kit.i64_shl _ _ hs1 (by rw [t1, ← hP]; omega) (by rw [t1, ← hP]; omega), t1, ← hP]; omega
  have c2 : (((1 : Int64) <<< s1) - (1 : Int64)).toInt = P - 1 := by
    rw [Jvm.Kit.i64_sub (by rw [c1, t1]; omega) (by rw [c1, t1]; omega), c1, t1]
  have c3 : (((1 : Int64) <<< s1) - (1 : Int64)).toBitVec.toNat = 2 ^ K - 1 := by
    have q : (((1 : Int64) <<< s1) - (1 : Int64)).toBitVec.toInt = P - 1 := c2
    have q2 := BitVec.toInt_eq_toNat_cond (((1 : Int64) <<< s1) - (1 : Int64)).toBitVec
    have q3 := (((1 : Int64) <<< s1) - (1 : Int64)).toBitVec.isLt
    have q4 : 1 ≤ 2 ^ K := Nat.two_pow_pos K
    rw [q] at q2
    split at q2 <;> omega
  have c4 : (hh &&& (((1 : Int64) <<< s1) - (1 : Int64))).toInt = hh.toInt % P := by
    rw [Jvm.Kit.i64_mask _ _ (k := K) (by omega) c3, hP]
  have d1 := Int.mul_ediv_add_emod hh.toInt P
  have d2 := Int.emod_nonneg hh.toInt (show P ≠ 0 by omega)
  have d3 := Int.emod_lt_of_pos hh.toInt hP1
  have l1 : (0 : Int32) < lcmpW hh ((((1 : Int64) <<< s2) / (4 : Int64)) * (3 : Int64)) ↔ 3 * P < hh.toInt := by rw [lw_gt, Int64.lt_iff_toInt_lt, a3]
  have l2 : lcmpW (hh >>> s1) (3 : Int64) < (0 : Int32) ↔ hh.toInt / P < 3 := by rw [lw_lt, Int64.lt_iff_toInt_lt, b1, t3]
  have l3 : lcmpW (hh >>> s1) (3 : Int64) = (0 : Int32) ↔ hh.toInt / P = 3 := by rw [lw_eq, ← Int64.toInt_inj, b1, t3]
  have l4 : lcmpW (hh &&& (((1 : Int64) <<< s1) - (1 : Int64))) (0 : Int64) = (0 : Int32) ↔ hh.toInt % P = 0 := by rw [lw_eq, ← Int64.toInt_inj, c4, t0]
  have m1 : hh.toInt / P < 3 ↔ hh.toInt < 3 * P := Int.ediv_lt_iff_lt_mul hP1
  have m2 : 4 ≤ hh.toInt / P ↔ 4 * P ≤ hh.toInt := Int.le_ediv_iff_mul_le hP1
  by_cases g2 : hh.toInt / P < 3
  · rw [if_pos (l2.mpr g2), if_neg]
    rw [l1]; have := m1.mp g2; omega
  · rw [if_neg fun q => g2 (l2.mp q)]
    by_cases g3 : hh.toInt / P = 3
    · rw [if_pos (l3.mpr g3)]
      rw [g3] at d1
      by_cases g4 : hh.toInt % P = 0
      · rw [if_pos (l4.mpr g4), if_neg]
        rw [l1]; omega
      · rw [if_neg fun q => g4 (l4.mp q), if_pos]
        rw [l1]; omega
    · rw [if_neg fun q => g3 (l3.mp q), if_pos]
      rw [l1]; have := m2.mp (by omega); omega
theorem own_both (q1 : Int64) (p2 p3 : Int32) : v1 (j0_48_s0 q1 p2 p3) (j0_19_s0 q1 p2 p3) = j0_126_l7 q1 p2 p3 := by
  show (if j0_19_s0 q1 p2 p3 < (24 : Int32) then (0 : Int32) else (if j0_19_s0 q1 p2 p3 < (63 : Int32) then (j1_35_s0 (j0_48_s0 q1 p2 p3) (j0_19_s0 q1 p2 p3)) else (0 : Int32))) = _
  rw [j0_126_l7]
  generalize j0_48_s0 q1 p2 p3 = hh
  generalize j0_19_s0 q1 p2 p3 = b
  have t24 : (24 : Int32).toInt = 24 := by decide
  have t62 : (62 : Int32).toInt = 62 := by decide
  have t63 : (63 : Int32).toInt = 63 := by decide
  have t2 : (2 : Int32).toInt = 2 := by decide
  by_cases h1 : b < (24 : Int32)
  · rw [if_pos h1, if_pos h1]
  · rw [if_neg h1, if_neg h1]
    rw [Int32.lt_iff_toInt_lt, t24] at h1
    by_cases h2 : b < (63 : Int32)
    · have h2' := h2
      rw [Int32.lt_iff_toInt_lt, t63] at h2'
      rw [if_pos h2, if_neg (by rw [Int32.lt_iff_toInt_lt, t62]; omega)]
      obtain ⟨n, hn⟩ : ∃ n : Nat, n = b.toInt.toNat := ⟨_, rfl⟩
      have hb : b = Int32.ofNat n := by
        apply Int32.toInt_inj.1
        rw [Int32.toInt_ofNat_small (by omega)]; omega
      have hb2 : b - (2 : Int32) = Int32.ofNat (n - 2) := by
        apply Int32.toInt_inj.1
        rw [Int32.toInt_ofNat_small (by omega), Jvm.Kit.i32_sub (by omega) (by omega), t2]; omega
      refine own_core hh (n - 2) (by omega) (by omega) _ _ ?_ ?_
      · rw [hb2]; exact own_sh _ (by omega)
      · rw [hb, own_sh _ (by omega)]; omega
    · rw [if_neg h2, if_pos]
      rw [Int32.lt_iff_toInt_lt, t63] at h2
      rw [Int32.lt_iff_toInt_lt, t62]; omega
theorem own_plain (q1 : Int64) (p2 p3 : Int32) : v0 q1 p2 p3 = 1 := if_pos (own_both q1 p2 p3)

set_option maxRecDepth 65536 in
set_option maxHeartbeats 40000000 in
theorem comes_1 {Post : Tables → Env → Array Value → State → Outcome → State → Prop} (hpost : ∀ tb e args s v u, (limb_1_1.after args s (.returned v) u = true ∧ limb_1_2.after args s (.returned v) u = true ∧ True) → FrameEnd s (.returned v) u (Jvm.fieldLocs frame_1_writes args s ++ Jvm.arrayLocs frame_1_arrays args s ++ Jvm.staticLocs frame_1_statics s) 0 0 → Post tb e args s (.returned v) u) :
    ArmFor flags0 classFile x code maxLocals ret World_1 tables_1 room_1 Calls_1 rest_1 Pre_1 Post := by
  intro l hfl _ _ p e ha hc hk s m args below hf hA hF happ hP
  obtain ⟨hcalls, hrest, hpre⟩ := hP
  obtain ⟨-, -, -, hnamed, -, -, -, hat⟩ := (Spec.applies_iff hf).mp happ
  obtain ⟨hg, hn⟩ := and_e (Cond.before_iff.mp (show (Jvm.Cond.and given_1 narrow_1).before args s = true from hpre))
  obtain ⟨gc, gr0⟩ := and_e hg
  obtain ⟨ga0, gr1⟩ := and_e gr0
  obtain ⟨ga1, gr2⟩ := and_e gr1
  obtain ⟨w0, w1, w2, rfl⟩ : ∃ w0 w1 w2 : Value, args = #[w0, w1, w2] := by
    have hs : args.size = 3 := by simpa [Cond.value, given_1] using gc
    obtain ⟨L⟩ := args
    match L, hs with
    | [w0, w1, w2], _ => exact ⟨w0, w1, w2, rfl⟩
  have hw := fun d (hd : d ∈ tables_1) => atoms_spec (ws := Jvm.Cond.code x code maxLocals ret :: tables_1) hat d (List.mem_cons_of_mem _ hd)
  obtain ⟨i0, ei0⟩ := isL_v ga0
  obtain rfl : w0 = (.long i0) := Option.some.inj ei0
  obtain ⟨i1, ei1⟩ := is_v ga1
  obtain rfl : w1 = (.int i1) := Option.some.inj ei1
  obtain ⟨i2, ei2⟩ := is_v gr2
  obtain rfl : w2 = (.int i2) := Option.some.inj ei2
  obtain ⟨n, o, h1, h2, h3, _, L, rfl, ⟨rfl, N, -⟩, hq⟩ := rm0 l s _ hw tables_1 i0 i1 i2 s.heap s.heap.size (Nat.le_refl _) p e ha hc hk s m _ below hf ((Spec.applies_iff_loose hf).mp happ).1 ⟨rfl, State.Warmed39.refl s, rfl⟩ trivial
  have hv : v0 i0 i1 i2 = 1 := own_plain i0 i1 i2
  rw [hv] at h3 hq
  refine ⟨n, _, h1, h2, h3, hpost _ _ _ _ _ _ ⟨Cond.after_iff.mpr rfl, Cond.after_iff.mpr (eq_i res_at (Term.int_eval (1)) rfl), trivial⟩ ⟨hq.1, hq.2.1, (hq.2.2.sift fun y hy => Or.inr (N y hy)).mono (by decide) (by decide)⟩⟩
theorem main_1_1 : Claimed_1_1 := comes_1 fun _ _ _ _ _ _ h hF => ⟨h.1, hF⟩
theorem main_1_2 : Claimed_1_2 := comes_1 fun _ _ _ _ _ _ h hF => ⟨h.2.1, hF⟩
end Jvm.Pilot.@@N@@
namespace Jvm.Pilot.@@N@@
open Jvm Jvm.ClassFile Sem Op Lib Jvm.Free Jvm.Stand Jvm.Pilot.@@N@@.Jvm.D
/-! MADE BY PROGRAM (witnessworld.py) out of the Statement's table words and the real class files: 9 classes; the members and pool entries that the words name. The judged class is class 1, her method 1. -/
namespace start1
open Jvm.ClassFile
def u (s : String) : CpInfo := .utf8 (stringToUtf16 s)
/-- a pool by its gaps: so many unusable entries, then the entry; so many at the end -/
def gap : Nat → List CpInfo → List CpInfo
  | 0, r => r
  | n + 1, r => .unusable :: gap n r
def poolList (es : List (Nat × CpInfo)) (last : Nat) : List CpInfo := es.foldr (fun e r => gap e.1 (e.2 :: r)) (gap last [])
def pool (es : List (Nat × CpInfo)) (last : Nat) : Array CpInfo := ⟨poolList es last⟩
def fileOf (pool : Array CpInfo) (this : Nat) (attrs : Array Attribute := #[]) (ms : Array MethodInfo := #[]) (fl : Nat := 33) (sup : Nat := 0) (ifs : Array Nat := #[]) (fds : Array FieldInfo := #[]) : ClassFile where
  minorVersion := 0
  majorVersion := 65
  constantPool := pool
  accessFlags := fl
  thisClass := this
  superClass := sup
  interfaces := ifs
  fields := fds
  methods := ms
  attributes := attrs
def plain (name : String) (sup : Option ClassId) : Class where
  name := name
  kind := .ordinary
  loader := none
  accessFlags := 33
  super := sup
  interfaces := #[]
  cf := none
  fields := #[]
  methods := #[]
  instanceTypes := #[]
  staticTypes := #[]
  resolved := #[]
  callSites := []
  init := .initialized
  statics := none
  mirror := none

def pool0 : Array CpInfo := pool [(5, u "<init>"), (0, u "()V"), (1, .class_ 10), (1, u "java/lang/Object")] 113

def k0m0 : Method := { name := "<init>", desc := "()V", sig := { parameters := [], returnType := none }, accessFlags := 1, code := none }
/-- java/lang/Object -/
def k0 : Class := { plain "java/lang/Object" none with
  accessFlags := 33
  interfaces := #[]
  cf := some (fileOf pool0 8 #[] #[{ accessFlags := 1, nameIndex := 5, descriptorIndex := 6, attributes := #[] }] 33 0 #[] #[])
  fields := #[]
  methods := #[k0m0]
  instanceTypes := #[]
  staticTypes := #[]
  resolved := Array.replicate 124 none
  statics := none }

def pool1 : Array CpInfo := pool [(2, .class_ 4), (1, u "java/lang/Object"), (0, u "<init>"), (0, u "()V"), (0, .integer 2147483647), (0, .long 3), (1, .interfaceMethodref 11 12), (0, .class_ 13), (0, .nameAndType 14 15), (0, u "com/example/visits_per_key/visitsperkey/store/Packing"), (0, u "holds"), (0, u "(JI)Z"), (0, .class_ 17), (0, u "com/example/visits_per_key/visitsperkey/store/PackingHoldsPinLaw"), (2, u "law"), (0, u "(JII)Z")] 3

def k1m0 : Method := { name := "<init>", desc := "()V", sig := { parameters := [], returnType := none }, accessFlags := 2, code := none }
def k1c1 : Code := { maxStack := 6, maxLocals := 13, code := code, exceptionTable := #[], attributes := #[] }
def k1m1 : Method := { name := "law", desc := "(JII)Z", sig := { parameters := [.long, .int, .int], returnType := some .boolean }, accessFlags := 9, code := some k1c1 }
/-- com/example/visits_per_key/visitsperkey/store/PackingHoldsPinLaw -/
def k1 : Class := { plain "com/example/visits_per_key/visitsperkey/store/PackingHoldsPinLaw" (some 0) with
  accessFlags := 49
  interfaces := #[]
  cf := some (fileOf pool1 16 #[] #[{ accessFlags := 2, nameIndex := 5, descriptorIndex := 6, attributes := #[] }, { accessFlags := 9, nameIndex := 20, descriptorIndex := 21, attributes := #[] }] 49 2 #[] #[])
  fields := #[]
  methods := #[k1m0, k1m1]
  instanceTypes := #[]
  staticTypes := #[]
  resolved := Array.replicate 25 none
  statics := none }

def pool2 : Array CpInfo := pool [(3, .class_ 4), (0, u "com/example/visits_per_key/visitsperkey/store/Packing"), (0, .long 4), (1, .long 3), (3, u "holds"), (0, u "(JI)Z"), (20, .class_ 34), (0, u "java/lang/Object"), (0, u "UNPACKABLE"), (0, u "J"), (1, u "NO_ORIGIN"), (0, u "LEAST_TIME_BITS"), (0, u "I")] 29

def k2c0 : Code := { maxStack := 6, maxLocals := 3, code := prog_17_method_1_code, exceptionTable := #[], attributes := #[] }
def k2m0 : Method := { name := "holds", desc := "(JI)Z", sig := { parameters := [.long, .int], returnType := some .boolean }, accessFlags := 9, code := some k2c0 }
/-- com/example/visits_per_key/visitsperkey/store/Packing -/
def k2 : Class := { plain "com/example/visits_per_key/visitsperkey/store/Packing" (some 0) with
  accessFlags := 1537
  interfaces := #[]
  cf := some (fileOf pool2 3 #[] #[{ accessFlags := 9, nameIndex := 11, descriptorIndex := 12, attributes := #[] }] 1537 33 #[] #[{ accessFlags := 25, nameIndex := 35, descriptorIndex := 36, attributes := #[] }, { accessFlags := 25, nameIndex := 38, descriptorIndex := 36, attributes := #[] }, { accessFlags := 25, nameIndex := 39, descriptorIndex := 40, attributes := #[] }])
  fields := #[{ name := "UNPACKABLE", type := .long, accessFlags := 25, slot := 0, constantValue := 0 }, { name := "NO_ORIGIN", type := .long, accessFlags := 25, slot := 1, constantValue := 0 }, { name := "LEAST_TIME_BITS", type := .int, accessFlags := 25, slot := 2, constantValue := 0 }]
  methods := #[k2m0]
  instanceTypes := #[]
  staticTypes := #[.long, .long, .int]
  resolved := Array.replicate 70 none
  statics := none }

def pool3 : Array CpInfo := pool [(1, u "java/lang/Cloneable"), (0, .class_ 1), (0, u "java/lang/Object"), (0, .class_ 3)] 3

/-- java/lang/Cloneable -/
def k3 : Class := { plain "java/lang/Cloneable" (some 0) with
  accessFlags := 1537
  interfaces := #[]
  cf := some (fileOf pool3 2 #[] #[] 1537 4 #[] #[])
  fields := #[]
  methods := #[]
  instanceTypes := #[]
  staticTypes := #[]
  resolved := Array.replicate 8 none
  statics := none }

def pool4 : Array CpInfo := pool [(1, u "java/io/Serializable"), (0, .class_ 1), (0, u "java/lang/Object"), (0, .class_ 3)] 3

/-- java/io/Serializable -/
def k4 : Class := { plain "java/io/Serializable" (some 0) with
  accessFlags := 1537
  interfaces := #[]
  cf := some (fileOf pool4 2 #[] #[] 1537 4 #[] #[])
  fields := #[]
  methods := #[]
  instanceTypes := #[]
  staticTypes := #[]
  resolved := Array.replicate 8 none
  statics := none }

/-- the primitive byte -/
def k5 : Class := { plain "byte" none with kind := .primitive 'B', accessFlags := 0x411 }
/-- [B -/
def k6 : Class := { plain "[B" (some 0) with kind := .array 5 .byte, interfaces := #[3, 4], accessFlags := 1041 }

/-- the primitive int -/
def k7 : Class := { plain "int" none with kind := .primitive 'I', accessFlags := 0x411 }
/-- [I -/
def k8 : Class := { plain "[I" (some 0) with kind := .array 7 .int, interfaces := #[3, 4], accessFlags := 1041 }

def heap : Heap := #[]
def classes : Array Class := #[k0, k1, k2, k3, k4, k5, k6, k7, k8]
def interned : List (Array UInt16 × Addr) := []
def slotsUsed : Nat := 0
def theMethod : MethodId := ⟨1, 1⟩
def args0 : Array Value := #[.long 5, .int 30, .int 1]
def aboutOver (below : List Frame) : State where
  vm := { classes := classes, interned := interned.toArray }
  heap := heap
  slotsUsed := slotsUsed
  threads := #[{ frames := .invoking theMethod args0 :: below }]
def below0 : List Frame := [.native { method := ⟨0, 0⟩, args := #[] }]
def about1 : State := aboutOver below0
def p0 : Program := .bare "" "" ""
def e0 : Env := launch0.env 0 0 0
theorem w_frames : about1.frames = Frame.invoking theMethod args0 :: below0 := rfl
set_option maxRecDepth 65536 in
theorem w_args : argsFit about1.vm theMethod args0 = true := by decide +kernel
set_option maxRecDepth 65536 in
theorem w_heap : heapFits about1 = true := by decide +kernel
set_option maxRecDepth 65536 in
theorem w_runnable : about1.curStatus? = some .runnable := by decide +kernel
set_option maxRecDepth 65536 in
theorem w_alone : about1.alone = true := by decide +kernel
set_option maxRecDepth 65536 in
theorem w_named : about1.methodNamed? x = some theMethod := by decide +kernel
set_option maxRecDepth 65536 in
theorem w_hears : about1.hears theMethod below0 = true := by decide +kernel
set_option maxRecDepth 65536 in
theorem w_ripe : about1.ripe theMethod args0 below0 = true := by decide +kernel
theorem w_running : about1.status = .running := rfl
set_option maxRecDepth 65536 in
theorem w_room : about1.hasRoom e0.platform room_1 = true :=
  launch0.hasRoom_least _ room_1 (by decide +kernel) (by decide +kernel) (by decide +kernel) (by decide +kernel) (by decide +kernel) (by decide +kernel)
theorem allAtoms_all (ts : List Jvm.Cond) (a : Array Jvm.Value) (st : Jvm.State) : (allAtoms ts).before a st = ts.all (fun c => c.before a st) := by
  induction ts with
  | nil => rfl
  | cons c t ih =>
    show (Jvm.Cond.and c (allAtoms t)).before a st = _
    rw [Jvm.Cond.before_and, ih, List.all_cons]
def words1 : List Jvm.Cond := Jvm.Cond.code x code maxLocals ret :: tables_1
/-- a 'code' word, met by the world's own term for the bytes: nothing is compared byte by byte -/
theorem code_word {y : MethodName} {bytes : ByteArray} {mx : Nat} {rt : Option FieldType} {a : Array Value} {s : State} {m : MethodId} {meth : Method} {c : Code} (h1 : s.methodNamed? y = some m) (h2 : s.vm.method? m = some meth) (h3 : meth.code = some c) (h4 : c.code = bytes)
    (h5 : (c.maxLocals == mx && c.exceptionTable.isEmpty && decide (c.maxStack ≤ mostOperands) && decide (meth.sig.returnType = rt) && !meth.locks && decide (parseMethodDescriptor y.desc = some meth.sig)) = true) : (Jvm.Cond.code y bytes mx rt).before a s = true := by
  simp only [Bool.and_eq_true, beq_iff_eq, Bool.not_eq_true', decide_eq_true_eq] at h5
  obtain ⟨⟨⟨⟨⟨g1, g2⟩, g3⟩, g4⟩, g5⟩, g6⟩ := h5
  simp [Cond.before, Cond.holds, Cond.value, h1, h2, h3, h4, g1, g2, g3, g4, g5, g6]
def isCode : Jvm.Cond → Bool
  | .code _ _ _ _ => true
  | _ => false
theorem all_split {L : List Jvm.Cond} {P : Jvm.Cond → Bool} (h1 : L.all (fun c => isCode c || P c) = true) (h2 : ∀ c ∈ L.filter isCode, P c = true) : L.all P = true := by
  refine List.all_eq_true.mpr fun c hc => ?_
  have h := List.all_eq_true.mp h1 c hc
  rcases Bool.eq_false_or_eq_true (isCode c) with hi | hi
  · exact h2 c (List.mem_filter.mpr ⟨hc, hi⟩)
  · simpa [hi] using h
set_option maxRecDepth 65536 in
theorem w_c0 : (Jvm.Cond.code x code maxLocals ret).before args0 about1 = true := code_word (m := ⟨1, 1⟩) (meth := k1m1) (c := k1c1) (by decide +kernel) rfl rfl rfl (by decide +kernel)
set_option maxRecDepth 65536 in
theorem w_c1 : (Jvm.Cond.code ({ cls := "com/example/visits_per_key/visitsperkey/store/Packing", name := "holds", desc := "(JI)Z" } : Jvm.MethodName) prog_17_method_1_code (3 : Nat) (Option.some Jvm.ClassFile.FieldType.boolean)).before args0 about1 = true := code_word (m := ⟨2, 0⟩) (meth := k2m0) (c := k2c0) (by decide +kernel) rfl rfl rfl (by decide +kernel)
def codes1 : List Jvm.Cond := [Jvm.Cond.code x code maxLocals ret, Jvm.Cond.code ({ cls := "com/example/visits_per_key/visitsperkey/store/Packing", name := "holds", desc := "(JI)Z" } : Jvm.MethodName) prog_17_method_1_code (3 : Nat) (Option.some Jvm.ClassFile.FieldType.boolean)]
set_option maxRecDepth 65536 in
theorem codes_eq : words1.filter isCode = codes1 := rfl
theorem w_codes : ∀ c ∈ words1.filter isCode, c.before args0 about1 = true := by
  rw [codes_eq]
  intro c hc
  simp only [codes1, List.mem_cons, List.not_mem_nil, or_false] at hc
  rcases hc with rfl | rfl
  · exact w_c0
  · exact w_c1
set_option maxRecDepth 65536 in
theorem w_t1 : words1.all (fun c => isCode c || c.before args0 about1) = true := by decide +kernel
theorem w_tables : (allAtoms (Jvm.Cond.code x code maxLocals ret :: tables_1)).before args0 about1 = true := by
  rw [allAtoms_all]
  show words1.all (fun c => c.before args0 about1) = true
  refine all_split ?_ w_codes
  rw [w_t1]
set_option maxRecDepth 65536 in
theorem w_case : (Jvm.Cond.and given_1 narrow_1).before args0 about1 = true := by decide +kernel
theorem w_applies : (headSpec (Jvm.Cond.code x code maxLocals ret :: tables_1) room_1).applies x e0.platform about1 = true :=
  (Spec.applies_iff w_frames).mpr ⟨w_running, w_runnable, w_alone, w_named, w_hears, w_ripe, w_room, w_tables⟩
theorem atStart : AtStart classFile x code maxLocals ret World_1 tables_1 room_1 Calls_1 rest_1 Pre_1 launch0 p0 e0 about1 theMethod args0 below0 :=
  ⟨lists_1, trivial, launch0.admits_env _ _ _, launch0.least_env, fairChoices_fair.cas, fairChoices_fair.clock, w_frames, w_args, w_heap, w_applies, trivial, trivial, w_case⟩
end start1
theorem witness_1 : WitnessClaimed_1 := ⟨start1.p0, start1.e0, start1.about1, start1.theMethod, start1.args0, start1.below0, start1.atStart⟩
end Jvm.Pilot.@@N@@
