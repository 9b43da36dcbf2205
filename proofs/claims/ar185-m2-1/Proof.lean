import JvmDerived
import JvmDerived.Pilot.@@N@@Statement
import JvmDerived.Pilot.@@N@@Code
set_option linter.unusedVariables false
set_option linter.unusedSimpArgs false
namespace Jvm.RoadKit
open Sem ClassFile Op Lib Jvm.Stand Jvm.Free Jvm.LawKit
section New
variable {p : Program} {l : Launch} {e : Env} {R : Room} {s : State} {m : MethodId} {args : Array Value} {below : List Frame} {meth : Method} {c : Code} {T : State} {locs : List Loc} {cells slots : Nat}
theorem retI (X : Stand p l e R s m args below meth c T locs cells slots) (hx : p.tables.exec = Jvm.exec) {pc : Nat} {Ls : Array Slot} {z : Int32} {rest : List Value} (hret : meth.sig.returnType = some .int) (hd : decode c.code pc = .ok (.ireturn, 1)) {fs : List Frame}
    (hl : ∀ (f : JFrame) (acts : List Action), f.method = m → f.locked = none → f.entered = [] → (doReturn e (T.setTop f) acts (some (.int z))).1 = T.setFrames fs) : Steps p.tables e below (T.setTop (mkF m pc Ls (.int z :: rest))) (T.setFrames fs) := by
  have hm' : T.vm.method? m = some meth := X.method'
  have hn : narrow .int (.int z) = .int z := rfl
  show Steps p.tables e below (T.setTop { method := m, pc := pc, locals := Ls, stack := _ :: rest, locked := none }) _
  jvm_step X.here [X.here.top, hx, hd, hm', hret, hn]
  first | (intro acts; rw [hl _ acts rfl rfl rfl]) | rw [hl _ _ rfl rfl rfl]
  exact Steps.refl _
end New
end Jvm.RoadKit
namespace Jvm.Pilot.@@N@@
open Jvm Jvm.ClassFile Sem Op Lib Jvm.Free Jvm.Stand Jvm.LawKit Jvm.RoadKit Bundle Jvm.Pilot.@@N@@.Jvm.D
theorem d1_0 : decode prog_20_method_12_code 0 = .ok (.lload_n 0, 1) := by decide +kernel
theorem d1_1 : decode prog_20_method_12_code 1 = .ok (.lconst 1, 1) := by decide +kernel
theorem d1_2 : decode prog_20_method_12_code 2 = .ok (.land, 1) := by decide +kernel
theorem d1_3 : decode prog_20_method_12_code 3 = .ok (.lconst 0, 1) := by decide +kernel
theorem d1_4 : decode prog_20_method_12_code 4 = .ok (.lcmp, 1) := by decide +kernel
theorem d1_5 : decode prog_20_method_12_code 5 = .ok (.ifCond .eq 7, 3) := by decide +kernel
theorem d1_8 : decode prog_20_method_12_code 8 = .ok (.iconst 1, 1) := by decide +kernel
theorem d1_9 : decode prog_20_method_12_code 9 = .ok (.goto 4, 3) := by decide +kernel
theorem d1_12 : decode prog_20_method_12_code 12 = .ok (.iconst 0, 1) := by decide +kernel
theorem d1_13 : decode prog_20_method_12_code 13 = .ok (.ireturn, 1) := by decide +kernel
theorem pn_0 : plainName "nubleaf/block/Dictionary" = true := by first | (simp [plainName, overriddenIn]; done) | decide +kernel
theorem ef_1 (m : MethodId) (q1 : Int64) : entryFrame m #[(.long q1)] 2 = mkF m 0 #[.val (.long q1), .second] [] := by first | (simp [entryFrame, mkF, argsToLocals, Value.category]; done) | rfl
def j1_13_s0 (q1 : Int64) : Int32 := (if (lcmpW (q1 &&& (1 : Int64)) (0 : Int64)) = (0 : Int32) then (0 : Int32) else (1 : Int32))
def v1 (q1 : Int64) : Int32 := (j1_13_s0 q1)
def Q1 (Z : State) (q1 : Int64) (h0 : Heap) (n0 : Nat) (v : Option Value) (h : Heap) (L : List Loc) : Prop := v = some (.int (v1 q1)) ∧ Fr n0 L ∧ h = h0
set_option maxRecDepth 65536 in
set_option maxHeartbeats 40000000 in
theorem rm1 (l : Launch) (Z : State) (a0 : Array Value) (hw : ∀ d ∈ tables_1, d.before a0 Z = true) (ws : List Jvm.Cond) (q1 : Int64) (h0 : Heap) (n0 : Nat) (Z0 : n0 ≤ h0.size) :
    MetFree l (⟨"nubleaf/block/Dictionary", "isEntry", "(J)Z"⟩ : MethodName) (head1 (Jvm.Cond.code (⟨"nubleaf/block/Dictionary", "isEntry", "(J)Z"⟩ : MethodName) prog_20_method_12_code 2 (some .boolean) :: ws) ({ frames := 0, cells := 0, slots := 0, locals := 0 } : Room)) (fun a U => a = #[(.long q1)] ∧ Z.Warmed39 U.vm ∧ U.heap = h0) (fun _ _ _ _ _ => True) (fun _ U o U' => ∃ v L, o = .returned v ∧ Q1 Z q1 h0 n0 v U'.heap L ∧ FrameEnd U o U' L ({ frames := 0, cells := 0, slots := 0, locals := 0 } : Room).cells ({ frames := 0, cells := 0, slots := 0, locals := 0 } : Room).slots) := by
  refine MetFree.of_bodySF (plainFor_of_name pn_0) hisR ?_
  intro p e s m args below meth c s₁ Bd hml0 hP hK
  obtain ⟨rfl, hZ, hh⟩ := hP
  have hx := Bd.exec
  have hby := Bd.bytes
  have hml : c.maxLocals = 2 := hml0
  have hown : s.vm.findClass "nubleaf/block/Dictionary" = some m.cls := findClass_of_methodNamed Bd.named
  have hnm := (name_of_methodNamed Bd.named Bd.method).1
  have X0 : Stand p l e ({ frames := 0, cells := 0, slots := 0, locals := 0 } : Room) s m #[(.long q1)] below meth c s₁ [] 0 0 := Stand.of_body Bd
  have e0 : s₁.heap = h0 := by rw [← hh, Bd.state]; rfl
  have N0 := Fr.nil n0
  have pre0 : ∀ t, Steps p.tables e below (s₁.setTop (mkF m 0 #[.val (.long q1), .second] [])) t → Steps p.tables e below (s₁.setTop (entryFrame m #[(.long q1)] 2)) t := fun t k => castTop (ef_1 m q1) k
  have sg0_2 : ∀ t, Steps p.tables e below (s₁.setTop (mkF m 13 #[.val (.long q1), .second] [(.int (j1_13_s0 q1))])) t → Steps p.tables e below (s₁.setTop (mkF m 0 #[.val (.long q1), .second] [])) t := by
    intro t kt
    show Steps p.tables e below (s₁.setTop (mkF m 0 #[.val (.long q1), .second] [])) _
    refine XS.lloadN X0.here hx rfl (hb hby d1_0) rfl ?_
    show Steps p.tables e below (s₁.setTop (mkF m 1 #[.val (.long q1), .second] [(.long q1)])) _
    refine XS.lconst X0.here hx rfl (hb hby d1_1) ?_
    show Steps p.tables e below (s₁.setTop (mkF m 2 #[.val (.long q1), .second] [(.long (1 : Int64)), (.long q1)])) _
    refine XS.land X0.here hx rfl (hb hby d1_2) rfl ?_
    show Steps p.tables e below (s₁.setTop (mkF m 3 #[.val (.long q1), .second] [(.long (q1 &&& (1 : Int64)))])) _
    refine XS.lconst X0.here hx rfl (hb hby d1_3) ?_
    show Steps p.tables e below (s₁.setTop (mkF m 4 #[.val (.long q1), .second] [(.long (0 : Int64)), (.long (q1 &&& (1 : Int64)))])) _
    refine XS.lcmp X0.here hx rfl (hb hby d1_4) rfl ?_
    show Steps p.tables e below (s₁.setTop (mkF m 5 #[.val (.long q1), .second] [(.int (lcmpW (q1 &&& (1 : Int64)) (0 : Int64)))])) _
    by_cases hc5_1 : (lcmpW (q1 &&& (1 : Int64)) (0 : Int64)) = (0 : Int32)
    · refine XS.ifYes X0.here hx rfl (pc0 := 5) (pc' := 12) rfl (hb hby d1_5) rfl ((if0 _ _).trans (teq hc5_1).1) (by decide) (by decide) ?_
      show Steps p.tables e below (s₁.setTop (mkF m 12 #[.val (.long q1), .second] [])) _
      refine XS.iconst X0.here hx rfl (hb hby d1_12) ?_
      rw [show (j1_13_s0 q1) = (0 : Int32) from (if_pos hc5_1)] at kt
      exact kt
    · refine XS.ifNo X0.here hx rfl (hb hby d1_5) rfl ((if0 _ _).trans (feq hc5_1).1) ?_
      show Steps p.tables e below (s₁.setTop (mkF m 8 #[.val (.long q1), .second] [])) _
      refine XS.iconst X0.here hx rfl (hb hby d1_8) ?_
      show Steps p.tables e below (s₁.setTop (mkF m 9 #[.val (.long q1), .second] [(.int (1 : Int32))])) _
      refine XS.goto X0.here hx rfl (pc0 := 9) (pc' := 13) rfl (hb hby d1_9) (by decide) (by decide) ?_
      rw [show (j1_13_s0 q1) = (1 : Int32) from (if_neg hc5_1)] at kt
      exact kt
  have hnar : nar .boolean (j1_13_s0 q1) = (j1_13_s0 q1) := by
    unfold j1_13_s0
    repeat' split
    all_goals rfl
  obtain ⟨fs, hr, hrun, hended, hW, hsame⟩ := X0.leave (v := some (.int (j1_13_s0 q1))) (fun h => by rw [Bd.returns] at h; cases h)
  refine ⟨_, _, pre0 _ ?_, hrun, hended, _, _, rfl, ?_, ⟨_, rfl⟩, hW, hsame.mono (by decide) (by decide)⟩
  · show Steps p.tables e below (s₁.setTop (mkF m 0 #[.val (.long q1), .second] [])) _
    refine sg0_2 _ ?_
    show Steps p.tables e below (s₁.setTop (mkF m 13 #[.val (.long q1), .second] [(.int (j1_13_s0 q1))])) _
    exact retN X0 hx (t := .boolean) Bd.returns (by simp) (hb hby d1_13) (by rw [hnar]; exact hr)
  · show Q1 Z q1 h0 n0 _ s₁.heap _
    rw [e0]
    exact ⟨rfl, N0, rfl⟩
theorem pd_0 : parseMethodDescriptor "(J)Z" = some ⟨[.long], some .boolean⟩ := by decide +kernel
theorem pn_1 : plainName "nubleaf/block/DictionaryIsEntryPinLaw" = true := by first | (simp [plainName, overriddenIn]; done) | decide +kernel
theorem ef_0 (m : MethodId) (p1 : Int32) (p2 : Int32) : entryFrame m #[(.int p1), (.int p2)] maxLocals = mkF m 0 #[.val (.int p1), .val (.int p2), .unset, .unset, .unset, .unset, .unset] [] := by first | (simp [entryFrame, mkF, argsToLocals, Value.category, maxLocals]; done) | rfl
def j0_20_l4 (p1 : Int32) (p2 : Int32) : Int32 := (if (p2 &&& (1 : Int32)) = (0 : Int32) then (0 : Int32) else (1 : Int32))
def j0_40_s0 (p1 : Int32) (p2 : Int32) : Int64 := (if (j0_20_l4 p1 p2) = (0 : Int32) then ((2 : Int64) * ((p1.toInt64) &&& (2147483647 : Int64))) else (((2 : Int64) * ((p1.toInt64) &&& (2147483647 : Int64))) + (1 : Int64)))
def j0_57_s0 (p1 : Int32) (p2 : Int32) : Int32 := (if (v1 (j0_40_s0 p1 p2)) = (j0_20_l4 p1 p2) then (1 : Int32) else (0 : Int32))
def v0 (p1 : Int32) (p2 : Int32) : Int32 := (j0_57_s0 p1 p2)
def Q0 (Z : State) (p1 : Int32) (p2 : Int32) (h0 : Heap) (n0 : Nat) (v : Option Value) (h : Heap) (L : List Loc) : Prop := v = some (.int (v0 p1 p2)) ∧ Fr n0 L ∧ True
set_option maxRecDepth 65536 in
set_option maxHeartbeats 40000000 in
theorem rm0 (l : Launch) (Z : State) (a0 : Array Value) (hw : ∀ d ∈ tables_1, d.before a0 Z = true) (ws : List Jvm.Cond) (p1 : Int32) (p2 : Int32) (h0 : Heap) (n0 : Nat) (Z0 : n0 ≤ h0.size) :
    MetFree l x (head1 (Jvm.Cond.code x code maxLocals ret :: ws) room_1) (fun a U => a = #[(.int p1), (.int p2)] ∧ Z.Warmed39 U.vm ∧ U.heap = h0) (fun _ _ _ _ _ => True) (fun _ U o U' => ∃ v L, o = .returned v ∧ Q0 Z p1 p2 h0 n0 v U'.heap L ∧ FrameEnd U o U' L room_1.cells room_1.slots) := by
  refine MetFree.of_bodySF (plainFor_of_name pn_1) hisR ?_
  intro p e s m args below meth c s₁ Bd hml0 hP hK
  obtain ⟨rfl, hZ, hh⟩ := hP
  have hx := Bd.exec
  have hby := Bd.bytes
  have hml : c.maxLocals = 7 := hml0
  have hown : s.vm.findClass "nubleaf/block/DictionaryIsEntryPinLaw" = some m.cls := findClass_of_methodNamed Bd.named
  have hnm := (name_of_methodNamed Bd.named Bd.method).1
  have X0 : Stand p l e room_1 s m #[(.int p1), (.int p2)] below meth c s₁ [] 0 0 := Stand.of_body Bd
  have e0 : s₁.heap = h0 := by rw [← hh, Bd.state]; rfl
  have N0 := Fr.nil n0
  have pre0 : ∀ t, Steps p.tables e below (s₁.setTop (mkF m 0 #[.val (.int p1), .val (.int p2), .unset, .unset, .unset, .unset, .unset] [])) t → Steps p.tables e below (s₁.setTop (entryFrame m #[(.int p1), (.int p2)] maxLocals)) t := fun t k => castTop (ef_0 m p1 p2) k
  have sg7_2 : ∀ t, Steps p.tables e below (s₁.setTop (mkF m 20 #[.val (.int p1), .val (.int p2), .val (.long ((p1.toInt64) &&& (2147483647 : Int64))), .second, .val (.int (j0_20_l4 p1 p2)), .unset, .unset] [])) t → Steps p.tables e below (s₁.setTop (mkF m 7 #[.val (.int p1), .val (.int p2), .val (.long ((p1.toInt64) &&& (2147483647 : Int64))), .second, .unset, .unset, .unset] [])) t := by
    intro t kt
    show Steps p.tables e below (s₁.setTop (mkF m 7 #[.val (.int p1), .val (.int p2), .val (.long ((p1.toInt64) &&& (2147483647 : Int64))), .second, .unset, .unset, .unset] [])) _
    refine XS.iloadN X0.here hx rfl (hb hby at_7) rfl ?_
    show Steps p.tables e below (s₁.setTop (mkF m 8 #[.val (.int p1), .val (.int p2), .val (.long ((p1.toInt64) &&& (2147483647 : Int64))), .second, .unset, .unset, .unset] [(.int p2)])) _
    refine XS.iconst X0.here hx rfl (hb hby at_8) ?_
    show Steps p.tables e below (s₁.setTop (mkF m 9 #[.val (.int p1), .val (.int p2), .val (.long ((p1.toInt64) &&& (2147483647 : Int64))), .second, .unset, .unset, .unset] [(.int (1 : Int32)), (.int p2)])) _
    refine XS.iand X0.here hx rfl (hb hby at_9) rfl ?_
    show Steps p.tables e below (s₁.setTop (mkF m 10 #[.val (.int p1), .val (.int p2), .val (.long ((p1.toInt64) &&& (2147483647 : Int64))), .second, .unset, .unset, .unset] [(.int (p2 &&& (1 : Int32)))])) _
    by_cases hc10_1 : (p2 &&& (1 : Int32)) = (0 : Int32)
    · refine XS.ifYes X0.here hx rfl (pc0 := 10) (pc' := 17) rfl (hb hby at_10) rfl ((if0 _ _).trans (teq hc10_1).1) (by decide) (by decide) ?_
      show Steps p.tables e below (s₁.setTop (mkF m 17 #[.val (.int p1), .val (.int p2), .val (.long ((p1.toInt64) &&& (2147483647 : Int64))), .second, .unset, .unset, .unset] [])) _
      refine XS.iconst X0.here hx rfl (hb hby at_17) ?_
      show Steps p.tables e below (s₁.setTop (mkF m 18 #[.val (.int p1), .val (.int p2), .val (.long ((p1.toInt64) &&& (2147483647 : Int64))), .second, .unset, .unset, .unset] [(.int (0 : Int32))])) _
      refine XS.istore X0.here hx rfl (hb hby at_18) rfl (l' := #[.val (.int p1), .val (.int p2), .val (.long ((p1.toInt64) &&& (2147483647 : Int64))), .second, .val (.int (0 : Int32)), .unset, .unset]) rfl ?_
      rw [show (j0_20_l4 p1 p2) = (0 : Int32) from (if_pos hc10_1)] at kt
      exact kt
    · refine XS.ifNo X0.here hx rfl (hb hby at_10) rfl ((if0 _ _).trans (feq hc10_1).1) ?_
      show Steps p.tables e below (s₁.setTop (mkF m 13 #[.val (.int p1), .val (.int p2), .val (.long ((p1.toInt64) &&& (2147483647 : Int64))), .second, .unset, .unset, .unset] [])) _
      refine XS.iconst X0.here hx rfl (hb hby at_13) ?_
      show Steps p.tables e below (s₁.setTop (mkF m 14 #[.val (.int p1), .val (.int p2), .val (.long ((p1.toInt64) &&& (2147483647 : Int64))), .second, .unset, .unset, .unset] [(.int (1 : Int32))])) _
      refine XS.goto X0.here hx rfl (pc0 := 14) (pc' := 18) rfl (hb hby at_14) (by decide) (by decide) ?_
      show Steps p.tables e below (s₁.setTop (mkF m 18 #[.val (.int p1), .val (.int p2), .val (.long ((p1.toInt64) &&& (2147483647 : Int64))), .second, .unset, .unset, .unset] [(.int (1 : Int32))])) _
      refine XS.istore X0.here hx rfl (hb hby at_18) rfl (l' := #[.val (.int p1), .val (.int p2), .val (.long ((p1.toInt64) &&& (2147483647 : Int64))), .second, .val (.int (1 : Int32)), .unset, .unset]) rfl ?_
      rw [show (j0_20_l4 p1 p2) = (1 : Int32) from (if_neg hc10_1)] at kt
      exact kt
  have sg20_4 : ∀ t, Steps p.tables e below (s₁.setTop (mkF m 40 #[.val (.int p1), .val (.int p2), .val (.long ((p1.toInt64) &&& (2147483647 : Int64))), .second, .val (.int (j0_20_l4 p1 p2)), .unset, .unset] [(.long (j0_40_s0 p1 p2))])) t → Steps p.tables e below (s₁.setTop (mkF m 20 #[.val (.int p1), .val (.int p2), .val (.long ((p1.toInt64) &&& (2147483647 : Int64))), .second, .val (.int (j0_20_l4 p1 p2)), .unset, .unset] [])) t := by
    intro t kt
    show Steps p.tables e below (s₁.setTop (mkF m 20 #[.val (.int p1), .val (.int p2), .val (.long ((p1.toInt64) &&& (2147483647 : Int64))), .second, .val (.int (j0_20_l4 p1 p2)), .unset, .unset] [])) _
    refine XS.iload X0.here hx rfl (hb hby at_20) rfl ?_
    show Steps p.tables e below (s₁.setTop (mkF m 22 #[.val (.int p1), .val (.int p2), .val (.long ((p1.toInt64) &&& (2147483647 : Int64))), .second, .val (.int (j0_20_l4 p1 p2)), .unset, .unset] [(.int (j0_20_l4 p1 p2))])) _
    by_cases hc22_3 : (j0_20_l4 p1 p2) = (0 : Int32)
    · refine XS.ifYes X0.here hx rfl (pc0 := 22) (pc' := 35) rfl (hb hby at_22) rfl ((if0 _ _).trans (teq hc22_3).1) (by decide) (by decide) ?_
      show Steps p.tables e below (s₁.setTop (mkF m 35 #[.val (.int p1), .val (.int p2), .val (.long ((p1.toInt64) &&& (2147483647 : Int64))), .second, .val (.int (j0_20_l4 p1 p2)), .unset, .unset] [])) _
      refine X0.ldc2Long hx hown (mvT hZ (hw _ (List.mem_of_getElem? (i := 1) rfl))) (g := (mkF m 35 #[.val (.int p1), .val (.int p2), .val (.long ((p1.toInt64) &&& (2147483647 : Int64))), .second, .val (.int (j0_20_l4 p1 p2)), .unset, .unset] [])) rfl (hb hby at_35) _ ?_
      show Steps p.tables e below (s₁.setTop (mkF m 38 #[.val (.int p1), .val (.int p2), .val (.long ((p1.toInt64) &&& (2147483647 : Int64))), .second, .val (.int (j0_20_l4 p1 p2)), .unset, .unset] [(.long (2 : Int64))])) _
      refine XS.lloadN X0.here hx rfl (hb hby at_38) rfl ?_
      show Steps p.tables e below (s₁.setTop (mkF m 39 #[.val (.int p1), .val (.int p2), .val (.long ((p1.toInt64) &&& (2147483647 : Int64))), .second, .val (.int (j0_20_l4 p1 p2)), .unset, .unset] [(.long ((p1.toInt64) &&& (2147483647 : Int64))), (.long (2 : Int64))])) _
      refine XS.lmul X0.here hx rfl (hb hby at_39) rfl ?_
      rw [show (j0_40_s0 p1 p2) = ((2 : Int64) * ((p1.toInt64) &&& (2147483647 : Int64))) from (if_pos hc22_3)] at kt
      exact kt
    · refine XS.ifNo X0.here hx rfl (hb hby at_22) rfl ((if0 _ _).trans (feq hc22_3).1) ?_
      show Steps p.tables e below (s₁.setTop (mkF m 25 #[.val (.int p1), .val (.int p2), .val (.long ((p1.toInt64) &&& (2147483647 : Int64))), .second, .val (.int (j0_20_l4 p1 p2)), .unset, .unset] [])) _
      refine X0.ldc2Long hx hown (mvT hZ (hw _ (List.mem_of_getElem? (i := 1) rfl))) (g := (mkF m 25 #[.val (.int p1), .val (.int p2), .val (.long ((p1.toInt64) &&& (2147483647 : Int64))), .second, .val (.int (j0_20_l4 p1 p2)), .unset, .unset] [])) rfl (hb hby at_25) _ ?_
      show Steps p.tables e below (s₁.setTop (mkF m 28 #[.val (.int p1), .val (.int p2), .val (.long ((p1.toInt64) &&& (2147483647 : Int64))), .second, .val (.int (j0_20_l4 p1 p2)), .unset, .unset] [(.long (2 : Int64))])) _
      refine XS.lloadN X0.here hx rfl (hb hby at_28) rfl ?_
      show Steps p.tables e below (s₁.setTop (mkF m 29 #[.val (.int p1), .val (.int p2), .val (.long ((p1.toInt64) &&& (2147483647 : Int64))), .second, .val (.int (j0_20_l4 p1 p2)), .unset, .unset] [(.long ((p1.toInt64) &&& (2147483647 : Int64))), (.long (2 : Int64))])) _
      refine XS.lmul X0.here hx rfl (hb hby at_29) rfl ?_
      show Steps p.tables e below (s₁.setTop (mkF m 30 #[.val (.int p1), .val (.int p2), .val (.long ((p1.toInt64) &&& (2147483647 : Int64))), .second, .val (.int (j0_20_l4 p1 p2)), .unset, .unset] [(.long ((2 : Int64) * ((p1.toInt64) &&& (2147483647 : Int64))))])) _
      refine XS.lconst X0.here hx rfl (hb hby at_30) ?_
      show Steps p.tables e below (s₁.setTop (mkF m 31 #[.val (.int p1), .val (.int p2), .val (.long ((p1.toInt64) &&& (2147483647 : Int64))), .second, .val (.int (j0_20_l4 p1 p2)), .unset, .unset] [(.long (1 : Int64)), (.long ((2 : Int64) * ((p1.toInt64) &&& (2147483647 : Int64))))])) _
      refine XS.ladd X0.here hx rfl (hb hby at_31) rfl ?_
      show Steps p.tables e below (s₁.setTop (mkF m 32 #[.val (.int p1), .val (.int p2), .val (.long ((p1.toInt64) &&& (2147483647 : Int64))), .second, .val (.int (j0_20_l4 p1 p2)), .unset, .unset] [(.long (((2 : Int64) * ((p1.toInt64) &&& (2147483647 : Int64))) + (1 : Int64)))])) _
      refine XS.goto X0.here hx rfl (pc0 := 32) (pc' := 40) rfl (hb hby at_32) (by decide) (by decide) ?_
      rw [show (j0_40_s0 p1 p2) = (((2 : Int64) * ((p1.toInt64) &&& (2147483647 : Int64))) + (1 : Int64)) from (if_neg hc22_3)] at kt
      exact kt
  obtain ⟨_, _, ⟨T5, L5, k5, n5⟩, -, X5, ⟨Lc5, hQ5, l5, y5, z5⟩, st5⟩ := Jvm.LawKit.callS X0 hx (y := (⟨"nubleaf/block/Dictionary", "isEntry", "(J)Z"⟩ : MethodName)) hown (mvT hZ (hw _ (List.mem_of_getElem? (i := 2) rfl))) (mvT hZ (hw _ (List.mem_of_getElem? (i := 3) rfl))) (mvT hZ (hw _ (List.mem_of_getElem? (i := 4) rfl))) (mvT hZ (hw _ (List.mem_of_getElem? (i := 5) rfl))) (by decide) (backOf (W := 0) (rm1 l Z a0 hw [] (j0_40_s0 p1 p2) h0 n0 Z0) hZ (hw _ (List.mem_of_getElem? (i := 5) rfl)) (hw _ (List.mem_of_getElem? (i := 4) rfl)) (by decide) (by decide)) (g := (mkF m 44 #[.val (.int p1), .val (.int p2), .val (.long ((p1.toInt64) &&& (2147483647 : Int64))), .second, .val (.int (j0_20_l4 p1 p2)), .val (.long (j0_40_s0 p1 p2)), .second] [(.long (j0_40_s0 p1 p2))])) rfl (by rw [hml]; rfl) (argsL := [(.long (j0_40_s0 p1 p2))]) (rest := []) (lenOf pd_0 rfl) rfl (by show 2 * 0 + _ ≤ _; exact Nat.le_of_eq rfl) (hb hby at_44) (fun _ _ => ⟨rfl, e0, (by decide : 0 + 0 ≤ _), (by decide : 0 + 0 ≤ _)⟩)
  dsimp only [Pt.U, Pt.locs, Pt.cells, Pt.slots] at X5 l5 y5 z5 st5 hQ5
  subst l5 y5 z5
  obtain ⟨rfl, N5q, e5⟩ := hQ5
  have N5 := Fr.app N0 N5q
  have sg47_7 : ∀ t, Steps p.tables e below (T5.setTop (mkF m 57 #[.val (.int p1), .val (.int p2), .val (.long ((p1.toInt64) &&& (2147483647 : Int64))), .second, .val (.int (j0_20_l4 p1 p2)), .val (.long (j0_40_s0 p1 p2)), .second] [(.int (j0_57_s0 p1 p2))])) t → Steps p.tables e below (T5.setTop (mkF m 47 #[.val (.int p1), .val (.int p2), .val (.long ((p1.toInt64) &&& (2147483647 : Int64))), .second, .val (.int (j0_20_l4 p1 p2)), .val (.long (j0_40_s0 p1 p2)), .second] [(.int (v1 (j0_40_s0 p1 p2)))])) t := by
    intro t kt
    show Steps p.tables e below (T5.setTop (mkF m 47 #[.val (.int p1), .val (.int p2), .val (.long ((p1.toInt64) &&& (2147483647 : Int64))), .second, .val (.int (j0_20_l4 p1 p2)), .val (.long (j0_40_s0 p1 p2)), .second] [(.int (v1 (j0_40_s0 p1 p2)))])) _
    refine XS.iload X5.here hx rfl (hb hby at_47) rfl ?_
    show Steps p.tables e below (T5.setTop (mkF m 49 #[.val (.int p1), .val (.int p2), .val (.long ((p1.toInt64) &&& (2147483647 : Int64))), .second, .val (.int (j0_20_l4 p1 p2)), .val (.long (j0_40_s0 p1 p2)), .second] [(.int (j0_20_l4 p1 p2)), (.int (v1 (j0_40_s0 p1 p2)))])) _
    by_cases hc49_6 : (v1 (j0_40_s0 p1 p2)) = (j0_20_l4 p1 p2)
    · refine XS.icmpNo X5.here hx rfl (hb hby at_49) rfl (teq hc49_6).2 ?_
      show Steps p.tables e below (T5.setTop (mkF m 52 #[.val (.int p1), .val (.int p2), .val (.long ((p1.toInt64) &&& (2147483647 : Int64))), .second, .val (.int (j0_20_l4 p1 p2)), .val (.long (j0_40_s0 p1 p2)), .second] [])) _
      refine XS.iconst X5.here hx rfl (hb hby at_52) ?_
      show Steps p.tables e below (T5.setTop (mkF m 53 #[.val (.int p1), .val (.int p2), .val (.long ((p1.toInt64) &&& (2147483647 : Int64))), .second, .val (.int (j0_20_l4 p1 p2)), .val (.long (j0_40_s0 p1 p2)), .second] [(.int (1 : Int32))])) _
      refine XS.goto X5.here hx rfl (pc0 := 53) (pc' := 57) rfl (hb hby at_53) (by decide) (by decide) ?_
      rw [show (j0_57_s0 p1 p2) = (1 : Int32) from (if_pos hc49_6)] at kt
      exact kt
    · refine XS.icmpYes X5.here hx rfl (pc0 := 49) (pc' := 56) rfl (hb hby at_49) rfl (feq hc49_6).2 (by decide) (by decide) ?_
      show Steps p.tables e below (T5.setTop (mkF m 56 #[.val (.int p1), .val (.int p2), .val (.long ((p1.toInt64) &&& (2147483647 : Int64))), .second, .val (.int (j0_20_l4 p1 p2)), .val (.long (j0_40_s0 p1 p2)), .second] [])) _
      refine XS.iconst X5.here hx rfl (hb hby at_56) ?_
      rw [show (j0_57_s0 p1 p2) = (0 : Int32) from (if_neg hc49_6)] at kt
      exact kt
  have hnar : nar .boolean (j0_57_s0 p1 p2) = (j0_57_s0 p1 p2) := by
    unfold j0_57_s0
    repeat' split
    all_goals rfl
  obtain ⟨fs, hr, hrun, hended, hW, hsame⟩ := X5.leave (v := some (.int (j0_57_s0 p1 p2))) (fun h => by rw [Bd.returns] at h; cases h)
  refine ⟨_, _, pre0 _ ?_, hrun, hended, _, _, rfl, ?_, ⟨_, rfl⟩, hW, hsame.mono (by decide) (by decide)⟩
  · show Steps p.tables e below (s₁.setTop (mkF m 0 #[.val (.int p1), .val (.int p2), .unset, .unset, .unset, .unset, .unset] [])) _
    refine XS.iloadN X0.here hx rfl (hb hby at_0) rfl ?_
    show Steps p.tables e below (s₁.setTop (mkF m 1 #[.val (.int p1), .val (.int p2), .unset, .unset, .unset, .unset, .unset] [(.int p1)])) _
    refine XS.i2l X0.here hx rfl (hb hby at_1) rfl ?_
    show Steps p.tables e below (s₁.setTop (mkF m 2 #[.val (.int p1), .val (.int p2), .unset, .unset, .unset, .unset, .unset] [(.long (p1.toInt64))])) _
    refine X0.ldc2Long hx hown (mvT hZ (hw _ (List.mem_of_getElem? (i := 0) rfl))) (g := (mkF m 2 #[.val (.int p1), .val (.int p2), .unset, .unset, .unset, .unset, .unset] [(.long (p1.toInt64))])) rfl (hb hby at_2) _ ?_
    show Steps p.tables e below (s₁.setTop (mkF m 5 #[.val (.int p1), .val (.int p2), .unset, .unset, .unset, .unset, .unset] [(.long (2147483647 : Int64)), (.long (p1.toInt64))])) _
    refine XS.land X0.here hx rfl (hb hby at_5) rfl ?_
    show Steps p.tables e below (s₁.setTop (mkF m 6 #[.val (.int p1), .val (.int p2), .unset, .unset, .unset, .unset, .unset] [(.long ((p1.toInt64) &&& (2147483647 : Int64)))])) _
    refine XS.lstoreN X0.here hx rfl (hb hby at_6) rfl (l' := #[.val (.int p1), .val (.int p2), .val (.long ((p1.toInt64) &&& (2147483647 : Int64))), .second, .unset, .unset, .unset]) rfl ?_
    show Steps p.tables e below (s₁.setTop (mkF m 7 #[.val (.int p1), .val (.int p2), .val (.long ((p1.toInt64) &&& (2147483647 : Int64))), .second, .unset, .unset, .unset] [])) _
    refine sg7_2 _ ?_
    show Steps p.tables e below (s₁.setTop (mkF m 20 #[.val (.int p1), .val (.int p2), .val (.long ((p1.toInt64) &&& (2147483647 : Int64))), .second, .val (.int (j0_20_l4 p1 p2)), .unset, .unset] [])) _
    refine sg20_4 _ ?_
    show Steps p.tables e below (s₁.setTop (mkF m 40 #[.val (.int p1), .val (.int p2), .val (.long ((p1.toInt64) &&& (2147483647 : Int64))), .second, .val (.int (j0_20_l4 p1 p2)), .unset, .unset] [(.long (j0_40_s0 p1 p2))])) _
    refine XS.lstore X0.here hx rfl (hb hby at_40) rfl (l' := #[.val (.int p1), .val (.int p2), .val (.long ((p1.toInt64) &&& (2147483647 : Int64))), .second, .val (.int (j0_20_l4 p1 p2)), .val (.long (j0_40_s0 p1 p2)), .second]) rfl ?_
    show Steps p.tables e below (s₁.setTop (mkF m 42 #[.val (.int p1), .val (.int p2), .val (.long ((p1.toInt64) &&& (2147483647 : Int64))), .second, .val (.int (j0_20_l4 p1 p2)), .val (.long (j0_40_s0 p1 p2)), .second] [])) _
    refine XS.lload X0.here hx rfl (hb hby at_42) rfl ?_
    show Steps p.tables e below (s₁.setTop (mkF m 44 #[.val (.int p1), .val (.int p2), .val (.long ((p1.toInt64) &&& (2147483647 : Int64))), .second, .val (.int (j0_20_l4 p1 p2)), .val (.long (j0_40_s0 p1 p2)), .second] [(.long (j0_40_s0 p1 p2))])) _
    refine st5 _ ?_
    show Steps p.tables e below (T5.setTop (mkF m 47 #[.val (.int p1), .val (.int p2), .val (.long ((p1.toInt64) &&& (2147483647 : Int64))), .second, .val (.int (j0_20_l4 p1 p2)), .val (.long (j0_40_s0 p1 p2)), .second] [(.int (v1 (j0_40_s0 p1 p2)))])) _
    refine sg47_7 _ ?_
    show Steps p.tables e below (T5.setTop (mkF m 57 #[.val (.int p1), .val (.int p2), .val (.long ((p1.toInt64) &&& (2147483647 : Int64))), .second, .val (.int (j0_20_l4 p1 p2)), .val (.long (j0_40_s0 p1 p2)), .second] [(.int (j0_57_s0 p1 p2))])) _
    exact retN X5 hx (t := .boolean) Bd.returns (by simp) (hb hby at_57) (by rw [hnar]; exact hr)
  · show Q0 Z p1 p2 h0 n0 _ T5.heap _
    rw [e5]
    exact ⟨rfl, N5, trivial⟩
theorem own_even (n : Int64) : ((2 : Int64) * n) &&& (1 : Int64) = 0 := by
  apply Int64.toBitVec_inj.1
  apply BitVec.eq_of_toNat_eq
  have h1 : (1 : Int64).toBitVec.toNat = 1 := by decide
  have h2 : (2 : Int64).toBitVec.toNat = 2 := by decide
  have h0 : (0 : Int64).toBitVec.toNat = 0 := by decide
  rw [Int64.toBitVec_and, BitVec.toNat_and, h1, Nat.and_one_is_mod, Int64.toBitVec_mul, BitVec.toNat_mul, h2, h0]
  omega
theorem own_odd (n : Int64) : ((2 : Int64) * n + (1 : Int64)) &&& (1 : Int64) ≠ 0 := by
  intro h
  have h : (((2 : Int64) * n + (1 : Int64)) &&& (1 : Int64)).toBitVec.toNat = (0 : Int64).toBitVec.toNat := by rw [h]
  have h1 : (1 : Int64).toBitVec.toNat = 1 := by decide
  have h2 : (2 : Int64).toBitVec.toNat = 2 := by decide
  have h0 : (0 : Int64).toBitVec.toNat = 0 := by decide
  rw [Int64.toBitVec_and, BitVec.toNat_and, h1, Nat.and_one_is_mod, Int64.toBitVec_add, BitVec.toNat_add, Int64.toBitVec_mul, BitVec.toNat_mul, h1, h2, h0] at h
  omega
theorem own_plain (p1 p2 : Int32) : v0 p1 p2 = 1 := by
  have key : v1 (j0_40_s0 p1 p2) = j0_20_l4 p1 p2 := by
    by_cases h : (p2 &&& (1 : Int32)) = (0 : Int32)
    · have e1 : j0_20_l4 p1 p2 = 0 := if_pos h
      have e2 : j0_40_s0 p1 p2 = (2 : Int64) * ((p1.toInt64) &&& (2147483647 : Int64)) := if_pos e1
      rw [e1, e2]
      exact if_pos ((lw_eq _ _).mpr (own_even _))
    · have e1 : j0_20_l4 p1 p2 = 1 := if_neg h
      have e2 : j0_40_s0 p1 p2 = (2 : Int64) * ((p1.toInt64) &&& (2147483647 : Int64)) + (1 : Int64) := if_neg (by rw [e1]; decide)
      rw [e1, e2]
      exact if_neg fun q => own_odd _ ((lw_eq _ _).mp q)
  exact if_pos key

set_option maxRecDepth 65536 in
set_option maxHeartbeats 40000000 in
theorem comes_1 {Post : Tables → Env → Array Value → State → Outcome → State → Prop} (hpost : ∀ tb e args s v u, (limb_1_1.after args s (.returned v) u = true ∧ limb_1_2.after args s (.returned v) u = true ∧ True) → FrameEnd s (.returned v) u (Jvm.fieldLocs frame_1_writes args s ++ Jvm.arrayLocs frame_1_arrays args s ++ Jvm.staticLocs frame_1_statics s) 0 0 → Post tb e args s (.returned v) u) :
    ArmFor flags0 classFile x code maxLocals ret World_1 tables_1 room_1 Calls_1 rest_1 Pre_1 Post := by
  intro l hfl _ _ p e ha hc hk s m args below hf hA hF happ hP
  obtain ⟨hcalls, hrest, hpre⟩ := hP
  obtain ⟨-, -, -, hnamed, -, -, -, hat⟩ := (Spec.applies_iff hf).mp happ
  obtain ⟨hg, hn⟩ := and_e (Cond.before_iff.mp (show (Jvm.Cond.and given_1 narrow_1).before args s = true from hpre))
  obtain ⟨gc, gr0⟩ := and_e hg
  obtain ⟨ga0, gr1⟩ := and_e gr0
  obtain ⟨w0, w1, rfl⟩ : ∃ w0 w1 : Value, args = #[w0, w1] := by
    have hs : args.size = 2 := by simpa [Cond.value, given_1] using gc
    obtain ⟨L⟩ := args
    match L, hs with
    | [w0, w1], _ => exact ⟨w0, w1, rfl⟩
  have hw := fun d (hd : d ∈ tables_1) => atoms_spec (ws := Jvm.Cond.code x code maxLocals ret :: tables_1) hat d (List.mem_cons_of_mem _ hd)
  obtain ⟨i0, ei0⟩ := is_v ga0
  obtain rfl : w0 = (.int i0) := Option.some.inj ei0
  obtain ⟨i1, ei1⟩ := is_v gr1
  obtain rfl : w1 = (.int i1) := Option.some.inj ei1
  obtain ⟨n, o, h1, h2, h3, _, L, rfl, ⟨rfl, N, -⟩, hq⟩ := rm0 l s _ hw tables_1 i0 i1 s.heap s.heap.size (Nat.le_refl _) p e ha hc hk s m _ below hf ((Spec.applies_iff_loose hf).mp happ).1 ⟨rfl, State.Warmed39.refl s, rfl⟩ trivial
  have hv : v0 i0 i1 = 1 := own_plain i0 i1
  rw [hv] at h3 hq
  refine ⟨n, _, h1, h2, h3, hpost _ _ _ _ _ _ ⟨Cond.after_iff.mpr rfl, Cond.after_iff.mpr (eq_i res_at (Term.int_eval (1)) rfl), trivial⟩ ⟨hq.1, hq.2.1, (hq.2.2.sift fun y hy => Or.inr (N y hy)).mono (by decide) (by decide)⟩⟩
theorem main_1_1 : Claimed_1_1 := comes_1 fun _ _ _ _ _ _ h hF => ⟨h.1, hF⟩
theorem main_1_2 : Claimed_1_2 := comes_1 fun _ _ _ _ _ _ h hF => ⟨h.2.1, hF⟩
end Jvm.Pilot.@@N@@
namespace Jvm.Pilot.@@N@@
open Jvm Jvm.ClassFile Sem Op Lib Jvm.Free Jvm.Stand Jvm.Pilot.@@N@@.Jvm.D
/-! MADE BY PROGRAM (witnessworld.py) out of the Statement's table words and the real class files: 9 classes; the members and pool entries that the words name. The judged class is class 1, her method 1. -/
namespace start1
open Jvm.ClassFile
def u (s : String) : CpInfo := .utf8 (stringToUtf16 s)
/-- a pool by its gaps: so many unusable entries, then the entry; so many at the end -/
def gap : Nat → List CpInfo → List CpInfo
  | 0, r => r
  | n + 1, r => .unusable :: gap n r
def poolList (es : List (Nat × CpInfo)) (last : Nat) : List CpInfo := es.foldr (fun e r => gap e.1 (e.2 :: r)) (gap last [])
def pool (es : List (Nat × CpInfo)) (last : Nat) : Array CpInfo := ⟨poolList es last⟩
def fileOf (pool : Array CpInfo) (this : Nat) (attrs : Array Attribute := #[]) (ms : Array MethodInfo := #[]) (fl : Nat := 33) (sup : Nat := 0) (ifs : Array Nat := #[]) (fds : Array FieldInfo := #[]) : ClassFile where
  minorVersion := 0
  majorVersion := 65
  constantPool := pool
  accessFlags := fl
  thisClass := this
  superClass := sup
  interfaces := ifs
  fields := fds
  methods := ms
  attributes := attrs
def plain (name : String) (sup : Option ClassId) : Class where
  name := name
  kind := .ordinary
  loader := none
  accessFlags := 33
  super := sup
  interfaces := #[]
  cf := none
  fields := #[]
  methods := #[]
  instanceTypes := #[]
  staticTypes := #[]
  resolved := #[]
  callSites := []
  init := .initialized
  statics := none
  mirror := none

def pool0 : Array CpInfo := pool [(5, u "<init>"), (0, u "()V"), (1, .class_ 10), (1, u "java/lang/Object")] 113

def k0m0 : Method := { name := "<init>", desc := "()V", sig := { parameters := [], returnType := none }, accessFlags := 1, code := none }
/-- java/lang/Object -/
def k0 : Class := { plain "java/lang/Object" none with
  accessFlags := 33
  interfaces := #[]
  cf := some (fileOf pool0 8 #[] #[{ accessFlags := 1, nameIndex := 5, descriptorIndex := 6, attributes := #[] }] 33 0 #[] #[])
  fields := #[]
  methods := #[k0m0]
  instanceTypes := #[]
  staticTypes := #[]
  resolved := Array.replicate 124 none
  statics := none }

def pool1 : Array CpInfo := pool [(2, .class_ 4), (1, u "java/lang/Object"), (0, u "<init>"), (0, u "()V"), (0, .long 2147483647), (1, .long 2), (1, .methodref 12 13), (0, .class_ 14), (0, .nameAndType 15 16), (0, u "nubleaf/block/Dictionary"), (0, u "isEntry"), (0, u "(J)Z"), (0, .class_ 18), (0, u "nubleaf/block/DictionaryIsEntryPinLaw"), (2, u "law"), (0, u "(II)Z")] 3

def k1m0 : Method := { name := "<init>", desc := "()V", sig := { parameters := [], returnType := none }, accessFlags := 1, code := none }
def k1c1 : Code := { maxStack := 4, maxLocals := 7, code := code, exceptionTable := #[], attributes := #[] }
def k1m1 : Method := { name := "law", desc := "(II)Z", sig := { parameters := [.int, .int], returnType := some .boolean }, accessFlags := 9, code := some k1c1 }
/-- nubleaf/block/DictionaryIsEntryPinLaw -/
def k1 : Class := { plain "nubleaf/block/DictionaryIsEntryPinLaw" (some 0) with
  accessFlags := 49
  interfaces := #[]
  cf := some (fileOf pool1 17 #[] #[{ accessFlags := 1, nameIndex := 5, descriptorIndex := 6, attributes := #[] }, { accessFlags := 9, nameIndex := 21, descriptorIndex := 22, attributes := #[] }] 49 2 #[] #[])
  fields := #[]
  methods := #[k1m0, k1m1]
  instanceTypes := #[]
  staticTypes := #[]
  resolved := Array.replicate 26 none
  statics := none }

def pool2 : Array CpInfo := pool [(2, .class_ 4), (1, u "java/lang/Object"), (3, .class_ 10), (1, u "nubleaf/block/Dictionary"), (0, u "block"), (0, u "Lnubleaf/block/BlockBytes;"), (2, u "count"), (0, u "I"), (2, u "bytes"), (2, u "name"), (0, u "Ljava/lang/String;"), (8, u "width"), (2, u "endsIndex"), (2, u "entriesIndex"), (112, u "isEntry"), (0, u "(J)Z")] 27

def k2c0 : Code := { maxStack := 4, maxLocals := 2, code := prog_20_method_12_code, exceptionTable := #[], attributes := #[] }
def k2m0 : Method := { name := "isEntry", desc := "(J)Z", sig := { parameters := [.long], returnType := some .boolean }, accessFlags := 8, code := some k2c0 }
/-- nubleaf/block/Dictionary -/
def k2 : Class := { plain "nubleaf/block/Dictionary" (some 0) with
  accessFlags := 48
  interfaces := #[]
  cf := some (fileOf pool2 8 #[] #[{ accessFlags := 8, nameIndex := 151, descriptorIndex := 152, attributes := #[] }] 48 2 #[] #[{ accessFlags := 18, nameIndex := 11, descriptorIndex := 12, attributes := #[] }, { accessFlags := 18, nameIndex := 15, descriptorIndex := 16, attributes := #[] }, { accessFlags := 18, nameIndex := 19, descriptorIndex := 16, attributes := #[] }, { accessFlags := 18, nameIndex := 22, descriptorIndex := 23, attributes := #[] }, { accessFlags := 18, nameIndex := 32, descriptorIndex := 16, attributes := #[] }, { accessFlags := 18, nameIndex := 35, descriptorIndex := 16, attributes := #[] }, { accessFlags := 18, nameIndex := 38, descriptorIndex := 16, attributes := #[] }])
  fields := #[{ name := "block", type := (.object "nubleaf/block/BlockBytes"), accessFlags := 18, slot := 0, constantValue := 0 }, { name := "count", type := .int, accessFlags := 18, slot := 1, constantValue := 0 }, { name := "bytes", type := .int, accessFlags := 18, slot := 2, constantValue := 0 }, { name := "name", type := (.object "java/lang/String"), accessFlags := 18, slot := 3, constantValue := 0 }, { name := "width", type := .int, accessFlags := 18, slot := 4, constantValue := 0 }, { name := "endsIndex", type := .int, accessFlags := 18, slot := 5, constantValue := 0 }, { name := "entriesIndex", type := .int, accessFlags := 18, slot := 6, constantValue := 0 }]
  methods := #[k2m0]
  instanceTypes := #[(.object "nubleaf/block/BlockBytes"), .int, .int, (.object "java/lang/String"), .int, .int, .int]
  staticTypes := #[]
  resolved := Array.replicate 180 none
  statics := none }

def pool3 : Array CpInfo := pool [(1, u "java/lang/Cloneable"), (0, .class_ 1), (0, u "java/lang/Object"), (0, .class_ 3)] 3

/-- java/lang/Cloneable -/
def k3 : Class := { plain "java/lang/Cloneable" (some 0) with
  accessFlags := 1537
  interfaces := #[]
  cf := some (fileOf pool3 2 #[] #[] 1537 4 #[] #[])
  fields := #[]
  methods := #[]
  instanceTypes := #[]
  staticTypes := #[]
  resolved := Array.replicate 8 none
  statics := none }

def pool4 : Array CpInfo := pool [(1, u "java/io/Serializable"), (0, .class_ 1), (0, u "java/lang/Object"), (0, .class_ 3)] 3

/-- java/io/Serializable -/
def k4 : Class := { plain "java/io/Serializable" (some 0) with
  accessFlags := 1537
  interfaces := #[]
  cf := some (fileOf pool4 2 #[] #[] 1537 4 #[] #[])
  fields := #[]
  methods := #[]
  instanceTypes := #[]
  staticTypes := #[]
  resolved := Array.replicate 8 none
  statics := none }

/-- the primitive byte -/
def k5 : Class := { plain "byte" none with kind := .primitive 'B', accessFlags := 0x411 }
/-- [B -/
def k6 : Class := { plain "[B" (some 0) with kind := .array 5 .byte, interfaces := #[3, 4], accessFlags := 1041 }

/-- the primitive int -/
def k7 : Class := { plain "int" none with kind := .primitive 'I', accessFlags := 0x411 }
/-- [I -/
def k8 : Class := { plain "[I" (some 0) with kind := .array 7 .int, interfaces := #[3, 4], accessFlags := 1041 }

def heap : Heap := #[]
def classes : Array Class := #[k0, k1, k2, k3, k4, k5, k6, k7, k8]
def interned : List (Array UInt16 × Addr) := []
def slotsUsed : Nat := 0
def theMethod : MethodId := ⟨1, 1⟩
def args0 : Array Value := #[.int 5, .int 3]
def aboutOver (below : List Frame) : State where
  vm := { classes := classes, interned := interned.toArray }
  heap := heap
  slotsUsed := slotsUsed
  threads := #[{ frames := .invoking theMethod args0 :: below }]
def below0 : List Frame := [.native { method := ⟨0, 0⟩, args := #[] }]
def about1 : State := aboutOver below0
def p0 : Program := .bare "" "" ""
def e0 : Env := launch0.env 0 0 0
theorem w_frames : about1.frames = Frame.invoking theMethod args0 :: below0 := rfl
set_option maxRecDepth 65536 in
theorem w_args : argsFit about1.vm theMethod args0 = true := by decide +kernel
set_option maxRecDepth 65536 in
theorem w_heap : heapFits about1 = true := by decide +kernel
set_option maxRecDepth 65536 in
theorem w_runnable : about1.curStatus? = some .runnable := by decide +kernel
set_option maxRecDepth 65536 in
theorem w_alone : about1.alone = true := by decide +kernel
set_option maxRecDepth 65536 in
theorem w_named : about1.methodNamed? x = some theMethod := by decide +kernel
set_option maxRecDepth 65536 in
theorem w_hears : about1.hears theMethod below0 = true := by decide +kernel
set_option maxRecDepth 65536 in
theorem w_ripe : about1.ripe theMethod args0 below0 = true := by decide +kernel
theorem w_running : about1.status = .running := rfl
set_option maxRecDepth 65536 in
theorem w_room : about1.hasRoom e0.platform room_1 = true :=
  launch0.hasRoom_least _ room_1 (by decide +kernel) (by decide +kernel) (by decide +kernel) (by decide +kernel) (by decide +kernel) (by decide +kernel)
theorem allAtoms_all (ts : List Jvm.Cond) (a : Array Jvm.Value) (st : Jvm.State) : (allAtoms ts).before a st = ts.all (fun c => c.before a st) := by
  induction ts with
  | nil => rfl
  | cons c t ih =>
    show (Jvm.Cond.and c (allAtoms t)).before a st = _
    rw [Jvm.Cond.before_and, ih, List.all_cons]
def words1 : List Jvm.Cond := Jvm.Cond.code x code maxLocals ret :: tables_1
/-- a 'code' word, met by the world's own term for the bytes: nothing is compared byte by byte -/
theorem code_word {y : MethodName} {bytes : ByteArray} {mx : Nat} {rt : Option FieldType} {a : Array Value} {s : State} {m : MethodId} {meth : Method} {c : Code} (h1 : s.methodNamed? y = some m) (h2 : s.vm.method? m = some meth) (h3 : meth.code = some c) (h4 : c.code = bytes)
    (h5 : (c.maxLocals == mx && c.exceptionTable.isEmpty && decide (c.maxStack ≤ mostOperands) && decide (meth.sig.returnType = rt) && !meth.locks && decide (parseMethodDescriptor y.desc = some meth.sig)) = true) : (Jvm.Cond.code y bytes mx rt).before a s = true := by
  simp only [Bool.and_eq_true, beq_iff_eq, Bool.not_eq_true', decide_eq_true_eq] at h5
  obtain ⟨⟨⟨⟨⟨g1, g2⟩, g3⟩, g4⟩, g5⟩, g6⟩ := h5
  simp [Cond.before, Cond.holds, Cond.value, h1, h2, h3, h4, g1, g2, g3, g4, g5, g6]
def isCode : Jvm.Cond → Bool
  | .code _ _ _ _ => true
  | _ => false
theorem all_split {L : List Jvm.Cond} {P : Jvm.Cond → Bool} (h1 : L.all (fun c => isCode c || P c) = true) (h2 : ∀ c ∈ L.filter isCode, P c = true) : L.all P = true := by
  refine List.all_eq_true.mpr fun c hc => ?_
  have h := List.all_eq_true.mp h1 c hc
  rcases Bool.eq_false_or_eq_true (isCode c) with hi | hi
  · exact h2 c (List.mem_filter.mpr ⟨hc, hi⟩)
  · simpa [hi] using h
set_option maxRecDepth 65536 in
theorem w_c0 : (Jvm.Cond.code x code maxLocals ret).before args0 about1 = true := code_word (m := ⟨1, 1⟩) (meth := k1m1) (c := k1c1) (by decide +kernel) rfl rfl rfl (by decide +kernel)
set_option maxRecDepth 65536 in
theorem w_c1 : (Jvm.Cond.code ({ cls := "nubleaf/block/Dictionary", name := "isEntry", desc := "(J)Z" } : Jvm.MethodName) prog_20_method_12_code (2 : Nat) (Option.some Jvm.ClassFile.FieldType.boolean)).before args0 about1 = true := code_word (m := ⟨2, 0⟩) (meth := k2m0) (c := k2c0) (by decide +kernel) rfl rfl rfl (by decide +kernel)
def codes1 : List Jvm.Cond := [Jvm.Cond.code x code maxLocals ret, Jvm.Cond.code ({ cls := "nubleaf/block/Dictionary", name := "isEntry", desc := "(J)Z" } : Jvm.MethodName) prog_20_method_12_code (2 : Nat) (Option.some Jvm.ClassFile.FieldType.boolean)]
set_option maxRecDepth 65536 in
theorem codes_eq : words1.filter isCode = codes1 := rfl
theorem w_codes : ∀ c ∈ words1.filter isCode, c.before args0 about1 = true := by
  rw [codes_eq]
  intro c hc
  simp only [codes1, List.mem_cons, List.not_mem_nil, or_false] at hc
  rcases hc with rfl | rfl
  · exact w_c0
  · exact w_c1
set_option maxRecDepth 65536 in
theorem w_t1 : words1.all (fun c => isCode c || c.before args0 about1) = true := by decide +kernel
theorem w_tables : (allAtoms (Jvm.Cond.code x code maxLocals ret :: tables_1)).before args0 about1 = true := by
  rw [allAtoms_all]
  show words1.all (fun c => c.before args0 about1) = true
  refine all_split ?_ w_codes
  rw [w_t1]
set_option maxRecDepth 65536 in
theorem w_case : (Jvm.Cond.and given_1 narrow_1).before args0 about1 = true := by decide +kernel
theorem w_applies : (headSpec (Jvm.Cond.code x code maxLocals ret :: tables_1) room_1).applies x e0.platform about1 = true :=
  (Spec.applies_iff w_frames).mpr ⟨w_running, w_runnable, w_alone, w_named, w_hears, w_ripe, w_room, w_tables⟩
theorem atStart : AtStart classFile x code maxLocals ret World_1 tables_1 room_1 Calls_1 rest_1 Pre_1 launch0 p0 e0 about1 theMethod args0 below0 :=
  ⟨lists_1, trivial, launch0.admits_env _ _ _, launch0.least_env, fairChoices_fair.cas, fairChoices_fair.clock, w_frames, w_args, w_heap, w_applies, trivial, trivial, w_case⟩
end start1
theorem witness_1 : WitnessClaimed_1 := ⟨start1.p0, start1.e0, start1.about1, start1.theMethod, start1.args0, start1.below0, start1.atStart⟩
end Jvm.Pilot.@@N@@
