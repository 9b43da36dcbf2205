import JvmDerived
import JvmDerived.Pilot.@@N@@Statement
import JvmDerived.Pilot.@@N@@Code
set_option linter.unusedVariables false
set_option linter.unusedSimpArgs false
@@BLOCK:NumsL.lean.txt@@
namespace Jvm.RoadKit
open Sem ClassFile Op Lib Jvm.Stand Jvm.Free Jvm.LawKit
section New
variable {p : Program} {l : Launch} {e : Env} {R : Room} {s : State} {m : MethodId} {args : Array Value} {below : List Frame} {meth : Method} {c : Code} {T : State} {locs : List Loc} {cells slots : Nat}
theorem retI (X : Stand p l e R s m args below meth c T locs cells slots) (hx : p.tables.exec = Jvm.exec) {pc : Nat} {Ls : Array Slot} {z : Int32} {rest : List Value} (hret : meth.sig.returnType = some .int) (hd : decode c.code pc = .ok (.ireturn, 1)) {fs : List Frame}
    (hl : ∀ (f : JFrame) (acts : List Action), f.method = m → f.locked = none → f.entered = [] → (doReturn e (T.setTop f) acts (some (.int z))).1 = T.setFrames fs) : Steps p.tables e below (T.setTop (mkF m pc Ls (.int z :: rest))) (T.setFrames fs) := by
  have hm' : T.vm.method? m = some meth := X.method'
  have hn : narrow .int (.int z) = .int z := rfl
  show Steps p.tables e below (T.setTop { method := m, pc := pc, locals := Ls, stack := _ :: rest, locked := none }) _
  jvm_step X.here [X.here.top, hx, hd, hm', hret, hn]
  first | (intro acts; rw [hl _ acts rfl rfl rfl]) | rw [hl _ _ rfl rfl rfl]
  exact Steps.refl _
end New
end Jvm.RoadKit
namespace Jvm.Pilot.@@N@@
open Jvm Jvm.ClassFile Sem Op Lib Jvm.Free Jvm.Stand Jvm.LawKit Jvm.RoadKit Bundle Jvm.Pilot.@@N@@.Jvm.D
theorem d1_0 : decode jdk_29_method_66_code 0 = .ok (.lload_n 0, 1) := by decide +kernel
theorem d1_1 : decode jdk_29_method_66_code 1 = .ok (.lload_n 2, 1) := by decide +kernel
theorem d1_2 : decode jdk_29_method_66_code 2 = .ok (.lcmp, 1) := by decide +kernel
theorem d1_3 : decode jdk_29_method_66_code 3 = .ok (.ifCond .lt 7, 3) := by decide +kernel
theorem d1_6 : decode jdk_29_method_66_code 6 = .ok (.lload_n 0, 1) := by decide +kernel
theorem d1_7 : decode jdk_29_method_66_code 7 = .ok (.goto 4, 3) := by decide +kernel
theorem d1_10 : decode jdk_29_method_66_code 10 = .ok (.lload_n 2, 1) := by decide +kernel
theorem d1_11 : decode jdk_29_method_66_code 11 = .ok (.lreturn, 1) := by decide +kernel
theorem ef_1 (m : MethodId) (q1 : Int64) (q2 : Int64) : entryFrame m #[(.long q1), (.long q2)] 4 = mkF m 0 #[.val (.long q1), .second, .val (.long q2), .second] [] := by first | (simp [entryFrame, mkF, argsToLocals, Value.category]; done) | rfl
def j1_11_s0 (q1 : Int64) (q2 : Int64) : Int64 := (if (lcmpW q1 q2) < (0 : Int32) then q2 else q1)
def v1 (q1 : Int64) (q2 : Int64) : Int64 := (j1_11_s0 q1 q2)
def Q1 (Z : State) (q1 : Int64) (q2 : Int64) (h0 : Heap) (n0 : Nat) (v : Option Value) (h : Heap) (L : List Loc) : Prop := v = some (.long (v1 q1 q2)) ∧ Fr n0 L ∧ h = h0
set_option maxRecDepth 65536 in
set_option maxHeartbeats 40000000 in
theorem rm1 (l : Launch) (Z : State) (a0 : Array Value) (hw : ∀ d ∈ tables_1, d.before a0 Z = true) (ws : List Jvm.Cond) (q1 : Int64) (q2 : Int64) (h0 : Heap) (n0 : Nat) (Z0 : n0 ≤ h0.size) :
    MetFree l (⟨"java/lang/Math", "max", "(JJ)J"⟩ : MethodName) (head1 (Jvm.Cond.code (⟨"java/lang/Math", "max", "(JJ)J"⟩ : MethodName) jdk_29_method_66_code 4 (some .long) :: ws) ({ frames := 0, cells := 0, slots := 0, locals := 0 } : Room)) (fun a U => a = #[(.long q1), (.long q2)] ∧ Z.Warmed39 U.vm ∧ U.heap = h0) (fun _ _ _ _ _ => True) (fun _ U o U' => ∃ v L, o = .returned v ∧ Q1 Z q1 q2 h0 n0 v U'.heap L ∧ FrameEnd U o U' L ({ frames := 0, cells := 0, slots := 0, locals := 0 } : Room).cells ({ frames := 0, cells := 0, slots := 0, locals := 0 } : Room).slots) := by
  refine MetFree.of_bodySF (Jvm.Free.JP.mathPlain rfl (by decide +kernel)) hisR ?_
  intro p e s m args below meth c s₁ Bd hml0 hP hK
  obtain ⟨rfl, hZ, hh⟩ := hP
  have hx := Bd.exec
  have hby := Bd.bytes
  have hml : c.maxLocals = 4 := hml0
  have hown : s.vm.findClass "java/lang/Math" = some m.cls := findClass_of_methodNamed Bd.named
  have hnm := (name_of_methodNamed Bd.named Bd.method).1
  have X0 : Stand p l e ({ frames := 0, cells := 0, slots := 0, locals := 0 } : Room) s m #[(.long q1), (.long q2)] below meth c s₁ [] 0 0 := Stand.of_body Bd
  have e0 : s₁.heap = h0 := by rw [← hh, Bd.state]; rfl
  have N0 := Fr.nil n0
  have pre0 : ∀ t, Steps p.tables e below (s₁.setTop (mkF m 0 #[.val (.long q1), .second, .val (.long q2), .second] [])) t → Steps p.tables e below (s₁.setTop (entryFrame m #[(.long q1), (.long q2)] 4)) t := fun t k => castTop (ef_1 m q1 q2) k
  have sg0_2 : ∀ t, Steps p.tables e below (s₁.setTop (mkF m 11 #[.val (.long q1), .second, .val (.long q2), .second] [(.long (j1_11_s0 q1 q2))])) t → Steps p.tables e below (s₁.setTop (mkF m 0 #[.val (.long q1), .second, .val (.long q2), .second] [])) t := by
    intro t kt
    show Steps p.tables e below (s₁.setTop (mkF m 0 #[.val (.long q1), .second, .val (.long q2), .second] [])) _
    refine XS.lloadN X0.here hx rfl (hb hby d1_0) rfl ?_
    show Steps p.tables e below (s₁.setTop (mkF m 1 #[.val (.long q1), .second, .val (.long q2), .second] [(.long q1)])) _
    refine XS.lloadN X0.here hx rfl (hb hby d1_1) rfl ?_
    show Steps p.tables e below (s₁.setTop (mkF m 2 #[.val (.long q1), .second, .val (.long q2), .second] [(.long q2), (.long q1)])) _
    refine XS.lcmp X0.here hx rfl (hb hby d1_2) rfl ?_
    show Steps p.tables e below (s₁.setTop (mkF m 3 #[.val (.long q1), .second, .val (.long q2), .second] [(.int (lcmpW q1 q2))])) _
    by_cases hc3_1 : (lcmpW q1 q2) < (0 : Int32)
    · refine XS.ifYes X0.here hx rfl (pc0 := 3) (pc' := 10) rfl (hb hby d1_3) rfl ((if0 _ _).trans (tlt hc3_1).1) (by decide) (by decide) ?_
      show Steps p.tables e below (s₁.setTop (mkF m 10 #[.val (.long q1), .second, .val (.long q2), .second] [])) _
      refine XS.lloadN X0.here hx rfl (hb hby d1_10) rfl ?_
      rw [show (j1_11_s0 q1 q2) = q2 from (if_pos hc3_1)] at kt
      exact kt
    · refine XS.ifNo X0.here hx rfl (hb hby d1_3) rfl ((if0 _ _).trans (flt hc3_1).1) ?_
      show Steps p.tables e below (s₁.setTop (mkF m 6 #[.val (.long q1), .second, .val (.long q2), .second] [])) _
      refine XS.lloadN X0.here hx rfl (hb hby d1_6) rfl ?_
      show Steps p.tables e below (s₁.setTop (mkF m 7 #[.val (.long q1), .second, .val (.long q2), .second] [(.long q1)])) _
      refine XS.goto X0.here hx rfl (pc0 := 7) (pc' := 11) rfl (hb hby d1_7) (by decide) (by decide) ?_
      rw [show (j1_11_s0 q1 q2) = q1 from (if_neg hc3_1)] at kt
      exact kt
  obtain ⟨fs, hr, hrun, hended, hW, hsame⟩ := X0.leave (v := some (.long (j1_11_s0 q1 q2))) (fun h => by rw [Bd.returns] at h; cases h)
  refine ⟨_, _, pre0 _ ?_, hrun, hended, _, _, rfl, ?_, ⟨_, rfl⟩, hW, hsame.mono (by decide) (by decide)⟩
  · show Steps p.tables e below (s₁.setTop (mkF m 0 #[.val (.long q1), .second, .val (.long q2), .second] [])) _
    refine sg0_2 _ ?_
    show Steps p.tables e below (s₁.setTop (mkF m 11 #[.val (.long q1), .second, .val (.long q2), .second] [(.long (j1_11_s0 q1 q2))])) _
    jvm_step X0.here [X0.here.top, hx, (hb hby d1_11), X0.method', Bd.returns, narrow]
    first | (intro acts; rw [hr _ acts rfl rfl rfl]) | rw [hr _ _ rfl rfl rfl]
    exact Steps.refl _
  · show Q1 Z q1 q2 h0 n0 _ s₁.heap _
    rw [e0]
    exact ⟨rfl, N0, rfl⟩
theorem d2_0 : decode prog_17_method_13_code 0 = .ok (.lload_n 0, 1) := by decide +kernel
theorem d2_1 : decode prog_17_method_13_code 1 = .ok (.ldc2_w 403, 3) := by decide +kernel
theorem d2_4 : decode prog_17_method_13_code 4 = .ok (.ladd, 1) := by decide +kernel
theorem d2_5 : decode prog_17_method_13_code 5 = .ok (.lconst 1, 1) := by decide +kernel
theorem d2_6 : decode prog_17_method_13_code 6 = .ok (.lsub, 1) := by decide +kernel
theorem d2_7 : decode prog_17_method_13_code 7 = .ok (.ldc2_w 403, 3) := by decide +kernel
theorem d2_10 : decode prog_17_method_13_code 10 = .ok (.ldiv, 1) := by decide +kernel
theorem d2_11 : decode prog_17_method_13_code 11 = .ok (.l2i, 1) := by decide +kernel
theorem d2_12 : decode prog_17_method_13_code 12 = .ok (.ireturn, 1) := by decide +kernel
theorem pn_0 : plainName "com/example/maybe_set/maybeset/FilterFile" = true := by first | (simp [plainName, overriddenIn]; done) | decide +kernel
theorem ef_2 (m : MethodId) (q1 : Int64) : entryFrame m #[(.long q1)] 2 = mkF m 0 #[.val (.long q1), .second] [] := by first | (simp [entryFrame, mkF, argsToLocals, Value.category]; done) | rfl
def v2 (q1 : Int64) : Int32 := ((((q1 + (64 : Int64)) - (1 : Int64)) / (64 : Int64)).toInt32)
def Q2 (Z : State) (q1 : Int64) (h0 : Heap) (n0 : Nat) (v : Option Value) (h : Heap) (L : List Loc) : Prop := v = some (.int (v2 q1)) ∧ Fr n0 L ∧ h = h0
set_option maxRecDepth 65536 in
set_option maxHeartbeats 40000000 in
theorem rm2 (l : Launch) (Z : State) (a0 : Array Value) (hw : ∀ d ∈ tables_1, d.before a0 Z = true) (ws : List Jvm.Cond) (q1 : Int64) (h0 : Heap) (n0 : Nat) (Z0 : n0 ≤ h0.size) :
    MetFree l (⟨"com/example/maybe_set/maybeset/FilterFile", "wordCount", "(J)I"⟩ : MethodName) (head1 (Jvm.Cond.code (⟨"com/example/maybe_set/maybeset/FilterFile", "wordCount", "(J)I"⟩ : MethodName) prog_17_method_13_code 2 (some .int) :: ws) ({ frames := 0, cells := 0, slots := 0, locals := 0 } : Room)) (fun a U => a = #[(.long q1)] ∧ Z.Warmed39 U.vm ∧ U.heap = h0) (fun _ _ _ _ _ => True) (fun _ U o U' => ∃ v L, o = .returned v ∧ Q2 Z q1 h0 n0 v U'.heap L ∧ FrameEnd U o U' L ({ frames := 0, cells := 0, slots := 0, locals := 0 } : Room).cells ({ frames := 0, cells := 0, slots := 0, locals := 0 } : Room).slots) := by
  refine MetFree.of_bodySF (plainFor_of_name pn_0) hisR ?_
  intro p e s m args below meth c s₁ Bd hml0 hP hK
  obtain ⟨rfl, hZ, hh⟩ := hP
  have hx := Bd.exec
  have hby := Bd.bytes
  have hml : c.maxLocals = 2 := hml0
  have hown : s.vm.findClass "com/example/maybe_set/maybeset/FilterFile" = some m.cls := findClass_of_methodNamed Bd.named
  have hnm := (name_of_methodNamed Bd.named Bd.method).1
  have X0 : Stand p l e ({ frames := 0, cells := 0, slots := 0, locals := 0 } : Room) s m #[(.long q1)] below meth c s₁ [] 0 0 := Stand.of_body Bd
  have e0 : s₁.heap = h0 := by rw [← hh, Bd.state]; rfl
  have N0 := Fr.nil n0
  have pre0 : ∀ t, Steps p.tables e below (s₁.setTop (mkF m 0 #[.val (.long q1), .second] [])) t → Steps p.tables e below (s₁.setTop (entryFrame m #[(.long q1)] 2)) t := fun t k => castTop (ef_2 m q1) k
  obtain ⟨fs, hr, hrun, hended, hW, hsame⟩ := X0.leave (v := some (.int ((((q1 + (64 : Int64)) - (1 : Int64)) / (64 : Int64)).toInt32))) (fun h => by rw [Bd.returns] at h; cases h)
  refine ⟨_, _, pre0 _ ?_, hrun, hended, _, _, rfl, ?_, ⟨_, rfl⟩, hW, hsame.mono (by decide) (by decide)⟩
  · show Steps p.tables e below (s₁.setTop (mkF m 0 #[.val (.long q1), .second] [])) _
    refine XS.lloadN X0.here hx rfl (hb hby d2_0) rfl ?_
    show Steps p.tables e below (s₁.setTop (mkF m 1 #[.val (.long q1), .second] [(.long q1)])) _
    refine X0.ldc2Long hx hown (mvT hZ (hw _ (List.mem_of_getElem? (i := 11) rfl))) (g := (mkF m 1 #[.val (.long q1), .second] [(.long q1)])) rfl (hb hby d2_1) _ ?_
    show Steps p.tables e below (s₁.setTop (mkF m 4 #[.val (.long q1), .second] [(.long (64 : Int64)), (.long q1)])) _
    refine XS.ladd X0.here hx rfl (hb hby d2_4) rfl ?_
    show Steps p.tables e below (s₁.setTop (mkF m 5 #[.val (.long q1), .second] [(.long (q1 + (64 : Int64)))])) _
    refine XS.lconst X0.here hx rfl (hb hby d2_5) ?_
    show Steps p.tables e below (s₁.setTop (mkF m 6 #[.val (.long q1), .second] [(.long (1 : Int64)), (.long (q1 + (64 : Int64)))])) _
    refine XS.lsub X0.here hx rfl (hb hby d2_6) rfl ?_
    show Steps p.tables e below (s₁.setTop (mkF m 7 #[.val (.long q1), .second] [(.long ((q1 + (64 : Int64)) - (1 : Int64)))])) _
    refine X0.ldc2Long hx hown (mvT hZ (hw _ (List.mem_of_getElem? (i := 11) rfl))) (g := (mkF m 7 #[.val (.long q1), .second] [(.long ((q1 + (64 : Int64)) - (1 : Int64)))])) rfl (hb hby d2_7) _ ?_
    show Steps p.tables e below (s₁.setTop (mkF m 10 #[.val (.long q1), .second] [(.long (64 : Int64)), (.long ((q1 + (64 : Int64)) - (1 : Int64)))])) _
    refine XS.ldiv X0.here hx rfl (hb hby d2_10) rfl (by decide) ?_
    show Steps p.tables e below (s₁.setTop (mkF m 11 #[.val (.long q1), .second] [(.long (((q1 + (64 : Int64)) - (1 : Int64)) / (64 : Int64)))])) _
    refine XS.l2i X0.here hx rfl (hb hby d2_11) rfl ?_
    show Steps p.tables e below (s₁.setTop (mkF m 12 #[.val (.long q1), .second] [(.int ((((q1 + (64 : Int64)) - (1 : Int64)) / (64 : Int64)).toInt32))])) _
    exact retI X0 hx Bd.returns (hb hby d2_12) hr
  · show Q2 Z q1 h0 n0 _ s₁.heap _
    rw [e0]
    exact ⟨rfl, N0, rfl⟩
theorem pd_0 : parseMethodDescriptor "(JJ)J" = some ⟨[.long, .long], some .long⟩ := by decide +kernel
theorem pd_1 : parseMethodDescriptor "(J)I" = some ⟨[.long], some .int⟩ := by decide +kernel
theorem pn_1 : plainName "com/example/maybe_set/maybeset/FilterFileWordCountPinLaw" = true := by first | (simp [plainName, overriddenIn]; done) | decide +kernel
theorem ef_0 (m : MethodId) (p1 : Int32) (p2 : Int32) : entryFrame m #[(.int p1), (.int p2)] maxLocals = mkF m 0 #[.val (.int p1), .val (.int p2), .unset, .unset, .unset, .unset, .unset, .unset, .unset] [] := by first | (simp [entryFrame, mkF, argsToLocals, Value.category, maxLocals]; done) | rfl
def j0_50_s0 (p1 : Int32) (p2 : Int32) : Int32 := (if (lcmpW ((v2 (v1 (0 : Int64) (((64 : Int64) * (((p1 &&& (2147483647 : Int32)) - ((p1 &&& (2147483647 : Int32)) / (2147483640 : Int32)) * (2147483640 : Int32)).toInt64)) - ((p2 &&& (63 : Int32)).toInt64)))).toInt64) (((p1 &&& (2147483647 : Int32)) - ((p1 &&& (2147483647 : Int32)) / (2147483640 : Int32)) * (2147483640 : Int32)).toInt64)) = (0 : Int32) then (1 : Int32) else (0 : Int32))
def v0 (p1 : Int32) (p2 : Int32) : Int32 := (j0_50_s0 p1 p2)
def Q0 (Z : State) (p1 : Int32) (p2 : Int32) (h0 : Heap) (n0 : Nat) (v : Option Value) (h : Heap) (L : List Loc) : Prop := v = some (.int (v0 p1 p2)) ∧ Fr n0 L ∧ True
set_option maxRecDepth 65536 in
set_option maxHeartbeats 40000000 in
theorem rm0 (l : Launch) (Z : State) (a0 : Array Value) (hw : ∀ d ∈ tables_1, d.before a0 Z = true) (ws : List Jvm.Cond) (p1 : Int32) (p2 : Int32) (h0 : Heap) (n0 : Nat) (Z0 : n0 ≤ h0.size) :
    MetFree l x (head1 (Jvm.Cond.code x code maxLocals ret :: ws) room_1) (fun a U => a = #[(.int p1), (.int p2)] ∧ Z.Warmed39 U.vm ∧ U.heap = h0) (fun _ _ _ _ _ => True) (fun _ U o U' => ∃ v L, o = .returned v ∧ Q0 Z p1 p2 h0 n0 v U'.heap L ∧ FrameEnd U o U' L room_1.cells room_1.slots) := by
  refine MetFree.of_bodySF (plainFor_of_name pn_1) hisR ?_
  intro p e s m args below meth c s₁ Bd hml0 hP hK
  obtain ⟨rfl, hZ, hh⟩ := hP
  have hx := Bd.exec
  have hby := Bd.bytes
  have hml : c.maxLocals = 9 := hml0
  have hown : s.vm.findClass "com/example/maybe_set/maybeset/FilterFileWordCountPinLaw" = some m.cls := findClass_of_methodNamed Bd.named
  have hnm := (name_of_methodNamed Bd.named Bd.method).1
  have X0 : Stand p l e room_1 s m #[(.int p1), (.int p2)] below meth c s₁ [] 0 0 := Stand.of_body Bd
  have e0 : s₁.heap = h0 := by rw [← hh, Bd.state]; rfl
  have N0 := Fr.nil n0
  have pre0 : ∀ t, Steps p.tables e below (s₁.setTop (mkF m 0 #[.val (.int p1), .val (.int p2), .unset, .unset, .unset, .unset, .unset, .unset, .unset] [])) t → Steps p.tables e below (s₁.setTop (entryFrame m #[(.int p1), (.int p2)] maxLocals)) t := fun t k => castTop (ef_0 m p1 p2) k
  obtain ⟨_, _, ⟨T1, L1, k1, n1⟩, -, X1, ⟨Lc1, hQ1, l1, y1, z1⟩, st1⟩ := Jvm.LawKit.callS X0 hx (y := (⟨"java/lang/Math", "max", "(JJ)J"⟩ : MethodName)) hown (mvT hZ (hw _ (List.mem_of_getElem? (i := 3) rfl))) (mvT hZ (hw _ (List.mem_of_getElem? (i := 4) rfl))) (mvT hZ (hw _ (List.mem_of_getElem? (i := 5) rfl))) (mvT hZ (hw _ (List.mem_of_getElem? (i := 6) rfl))) (by decide) (backOf (W := 0) (rm1 l Z a0 hw [] (0 : Int64) (((64 : Int64) * (((p1 &&& (2147483647 : Int32)) - ((p1 &&& (2147483647 : Int32)) / (2147483640 : Int32)) * (2147483640 : Int32)).toInt64)) - ((p2 &&& (63 : Int32)).toInt64)) h0 n0 Z0) hZ (hw _ (List.mem_of_getElem? (i := 6) rfl)) (hw _ (List.mem_of_getElem? (i := 5) rfl)) (by decide) (by decide)) (g := (mkF m 25 #[.val (.int p1), .val (.int p2), .val (.long (((p1 &&& (2147483647 : Int32)) - ((p1 &&& (2147483647 : Int32)) / (2147483640 : Int32)) * (2147483640 : Int32)).toInt64)), .second, .val (.long ((p2 &&& (63 : Int32)).toInt64)), .second, .unset, .unset, .unset] [(.long (((64 : Int64) * (((p1 &&& (2147483647 : Int32)) - ((p1 &&& (2147483647 : Int32)) / (2147483640 : Int32)) * (2147483640 : Int32)).toInt64)) - ((p2 &&& (63 : Int32)).toInt64))), (.long (0 : Int64))])) rfl (by rw [hml]; rfl) (argsL := [(.long (0 : Int64)), (.long (((64 : Int64) * (((p1 &&& (2147483647 : Int32)) - ((p1 &&& (2147483647 : Int32)) / (2147483640 : Int32)) * (2147483640 : Int32)).toInt64)) - ((p2 &&& (63 : Int32)).toInt64)))]) (rest := []) (lenOf pd_0 rfl) rfl (by show 2 * 0 + _ ≤ _; exact Nat.le_of_eq rfl) (hb hby at_25) (fun _ _ => ⟨rfl, e0, (by decide : 0 + 0 ≤ _), (by decide : 0 + 0 ≤ _)⟩)
  dsimp only [Pt.U, Pt.locs, Pt.cells, Pt.slots] at X1 l1 y1 z1 st1 hQ1
  subst l1 y1 z1
  obtain ⟨rfl, N1q, e1⟩ := hQ1
  have N1 := Fr.app N0 N1q
  obtain ⟨_, _, ⟨T2, L2, k2, n2⟩, -, X2, ⟨Lc2, hQ2, l2, y2, z2⟩, st2⟩ := Jvm.LawKit.callS X1 hx (y := (⟨"com/example/maybe_set/maybeset/FilterFile", "wordCount", "(J)I"⟩ : MethodName)) hown (mvT hZ (hw _ (List.mem_of_getElem? (i := 7) rfl))) (mvT hZ (hw _ (List.mem_of_getElem? (i := 8) rfl))) (mvT hZ (hw _ (List.mem_of_getElem? (i := 9) rfl))) (mvT hZ (hw _ (List.mem_of_getElem? (i := 10) rfl))) (by decide) (backOf (W := 0) (rm2 l Z a0 hw [] (v1 (0 : Int64) (((64 : Int64) * (((p1 &&& (2147483647 : Int32)) - ((p1 &&& (2147483647 : Int32)) / (2147483640 : Int32)) * (2147483640 : Int32)).toInt64)) - ((p2 &&& (63 : Int32)).toInt64))) h0 n0 Z0) hZ (hw _ (List.mem_of_getElem? (i := 10) rfl)) (hw _ (List.mem_of_getElem? (i := 9) rfl)) (by decide) (by decide)) (g := (mkF m 32 #[.val (.int p1), .val (.int p2), .val (.long (((p1 &&& (2147483647 : Int32)) - ((p1 &&& (2147483647 : Int32)) / (2147483640 : Int32)) * (2147483640 : Int32)).toInt64)), .second, .val (.long ((p2 &&& (63 : Int32)).toInt64)), .second, .val (.long (v1 (0 : Int64) (((64 : Int64) * (((p1 &&& (2147483647 : Int32)) - ((p1 &&& (2147483647 : Int32)) / (2147483640 : Int32)) * (2147483640 : Int32)).toInt64)) - ((p2 &&& (63 : Int32)).toInt64)))), .second, .unset] [(.long (v1 (0 : Int64) (((64 : Int64) * (((p1 &&& (2147483647 : Int32)) - ((p1 &&& (2147483647 : Int32)) / (2147483640 : Int32)) * (2147483640 : Int32)).toInt64)) - ((p2 &&& (63 : Int32)).toInt64))))])) rfl (by rw [hml]; rfl) (argsL := [(.long (v1 (0 : Int64) (((64 : Int64) * (((p1 &&& (2147483647 : Int32)) - ((p1 &&& (2147483647 : Int32)) / (2147483640 : Int32)) * (2147483640 : Int32)).toInt64)) - ((p2 &&& (63 : Int32)).toInt64))))]) (rest := []) (lenOf pd_1 rfl) rfl (by show 2 * 0 + _ ≤ _; exact Nat.le_of_eq rfl) (hb hby at_32) (fun _ _ => ⟨rfl, e1, (by decide : 0 + 0 ≤ _), (by decide : 0 + 0 ≤ _)⟩)
  dsimp only [Pt.U, Pt.locs, Pt.cells, Pt.slots] at X2 l2 y2 z2 st2 hQ2
  subst l2 y2 z2
  obtain ⟨rfl, N2q, e2⟩ := hQ2
  have N2 := Fr.app N1 N2q
  have sg37_4 : ∀ t, Steps p.tables e below (T2.setTop (mkF m 50 #[.val (.int p1), .val (.int p2), .val (.long (((p1 &&& (2147483647 : Int32)) - ((p1 &&& (2147483647 : Int32)) / (2147483640 : Int32)) * (2147483640 : Int32)).toInt64)), .second, .val (.long ((p2 &&& (63 : Int32)).toInt64)), .second, .val (.long (v1 (0 : Int64) (((64 : Int64) * (((p1 &&& (2147483647 : Int32)) - ((p1 &&& (2147483647 : Int32)) / (2147483640 : Int32)) * (2147483640 : Int32)).toInt64)) - ((p2 &&& (63 : Int32)).toInt64)))), .second, .val (.int (v2 (v1 (0 : Int64) (((64 : Int64) * (((p1 &&& (2147483647 : Int32)) - ((p1 &&& (2147483647 : Int32)) / (2147483640 : Int32)) * (2147483640 : Int32)).toInt64)) - ((p2 &&& (63 : Int32)).toInt64)))))] [(.int (j0_50_s0 p1 p2))])) t → Steps p.tables e below (T2.setTop (mkF m 37 #[.val (.int p1), .val (.int p2), .val (.long (((p1 &&& (2147483647 : Int32)) - ((p1 &&& (2147483647 : Int32)) / (2147483640 : Int32)) * (2147483640 : Int32)).toInt64)), .second, .val (.long ((p2 &&& (63 : Int32)).toInt64)), .second, .val (.long (v1 (0 : Int64) (((64 : Int64) * (((p1 &&& (2147483647 : Int32)) - ((p1 &&& (2147483647 : Int32)) / (2147483640 : Int32)) * (2147483640 : Int32)).toInt64)) - ((p2 &&& (63 : Int32)).toInt64)))), .second, .val (.int (v2 (v1 (0 : Int64) (((64 : Int64) * (((p1 &&& (2147483647 : Int32)) - ((p1 &&& (2147483647 : Int32)) / (2147483640 : Int32)) * (2147483640 : Int32)).toInt64)) - ((p2 &&& (63 : Int32)).toInt64)))))] [])) t := by
    intro t kt
    show Steps p.tables e below (T2.setTop (mkF m 37 #[.val (.int p1), .val (.int p2), .val (.long (((p1 &&& (2147483647 : Int32)) - ((p1 &&& (2147483647 : Int32)) / (2147483640 : Int32)) * (2147483640 : Int32)).toInt64)), .second, .val (.long ((p2 &&& (63 : Int32)).toInt64)), .second, .val (.long (v1 (0 : Int64) (((64 : Int64) * (((p1 &&& (2147483647 : Int32)) - ((p1 &&& (2147483647 : Int32)) / (2147483640 : Int32)) * (2147483640 : Int32)).toInt64)) - ((p2 &&& (63 : Int32)).toInt64)))), .second, .val (.int (v2 (v1 (0 : Int64) (((64 : Int64) * (((p1 &&& (2147483647 : Int32)) - ((p1 &&& (2147483647 : Int32)) / (2147483640 : Int32)) * (2147483640 : Int32)).toInt64)) - ((p2 &&& (63 : Int32)).toInt64)))))] [])) _
    refine XS.iload X2.here hx rfl (hb hby at_37) rfl ?_
    show Steps p.tables e below (T2.setTop (mkF m 39 #[.val (.int p1), .val (.int p2), .val (.long (((p1 &&& (2147483647 : Int32)) - ((p1 &&& (2147483647 : Int32)) / (2147483640 : Int32)) * (2147483640 : Int32)).toInt64)), .second, .val (.long ((p2 &&& (63 : Int32)).toInt64)), .second, .val (.long (v1 (0 : Int64) (((64 : Int64) * (((p1 &&& (2147483647 : Int32)) - ((p1 &&& (2147483647 : Int32)) / (2147483640 : Int32)) * (2147483640 : Int32)).toInt64)) - ((p2 &&& (63 : Int32)).toInt64)))), .second, .val (.int (v2 (v1 (0 : Int64) (((64 : Int64) * (((p1 &&& (2147483647 : Int32)) - ((p1 &&& (2147483647 : Int32)) / (2147483640 : Int32)) * (2147483640 : Int32)).toInt64)) - ((p2 &&& (63 : Int32)).toInt64)))))] [(.int (v2 (v1 (0 : Int64) (((64 : Int64) * (((p1 &&& (2147483647 : Int32)) - ((p1 &&& (2147483647 : Int32)) / (2147483640 : Int32)) * (2147483640 : Int32)).toInt64)) - ((p2 &&& (63 : Int32)).toInt64)))))])) _
    refine XS.i2l X2.here hx rfl (hb hby at_39) rfl ?_
    show Steps p.tables e below (T2.setTop (mkF m 40 #[.val (.int p1), .val (.int p2), .val (.long (((p1 &&& (2147483647 : Int32)) - ((p1 &&& (2147483647 : Int32)) / (2147483640 : Int32)) * (2147483640 : Int32)).toInt64)), .second, .val (.long ((p2 &&& (63 : Int32)).toInt64)), .second, .val (.long (v1 (0 : Int64) (((64 : Int64) * (((p1 &&& (2147483647 : Int32)) - ((p1 &&& (2147483647 : Int32)) / (2147483640 : Int32)) * (2147483640 : Int32)).toInt64)) - ((p2 &&& (63 : Int32)).toInt64)))), .second, .val (.int (v2 (v1 (0 : Int64) (((64 : Int64) * (((p1 &&& (2147483647 : Int32)) - ((p1 &&& (2147483647 : Int32)) / (2147483640 : Int32)) * (2147483640 : Int32)).toInt64)) - ((p2 &&& (63 : Int32)).toInt64)))))] [(.long ((v2 (v1 (0 : Int64) (((64 : Int64) * (((p1 &&& (2147483647 : Int32)) - ((p1 &&& (2147483647 : Int32)) / (2147483640 : Int32)) * (2147483640 : Int32)).toInt64)) - ((p2 &&& (63 : Int32)).toInt64)))).toInt64))])) _
    refine XS.lloadN X2.here hx rfl (hb hby at_40) rfl ?_
    show Steps p.tables e below (T2.setTop (mkF m 41 #[.val (.int p1), .val (.int p2), .val (.long (((p1 &&& (2147483647 : Int32)) - ((p1 &&& (2147483647 : Int32)) / (2147483640 : Int32)) * (2147483640 : Int32)).toInt64)), .second, .val (.long ((p2 &&& (63 : Int32)).toInt64)), .second, .val (.long (v1 (0 : Int64) (((64 : Int64) * (((p1 &&& (2147483647 : Int32)) - ((p1 &&& (2147483647 : Int32)) / (2147483640 : Int32)) * (2147483640 : Int32)).toInt64)) - ((p2 &&& (63 : Int32)).toInt64)))), .second, .val (.int (v2 (v1 (0 : Int64) (((64 : Int64) * (((p1 &&& (2147483647 : Int32)) - ((p1 &&& (2147483647 : Int32)) / (2147483640 : Int32)) * (2147483640 : Int32)).toInt64)) - ((p2 &&& (63 : Int32)).toInt64)))))] [(.long (((p1 &&& (2147483647 : Int32)) - ((p1 &&& (2147483647 : Int32)) / (2147483640 : Int32)) * (2147483640 : Int32)).toInt64)), (.long ((v2 (v1 (0 : Int64) (((64 : Int64) * (((p1 &&& (2147483647 : Int32)) - ((p1 &&& (2147483647 : Int32)) / (2147483640 : Int32)) * (2147483640 : Int32)).toInt64)) - ((p2 &&& (63 : Int32)).toInt64)))).toInt64))])) _
    refine XS.lcmp X2.here hx rfl (hb hby at_41) rfl ?_
    show Steps p.tables e below (T2.setTop (mkF m 42 #[.val (.int p1), .val (.int p2), .val (.long (((p1 &&& (2147483647 : Int32)) - ((p1 &&& (2147483647 : Int32)) / (2147483640 : Int32)) * (2147483640 : Int32)).toInt64)), .second, .val (.long ((p2 &&& (63 : Int32)).toInt64)), .second, .val (.long (v1 (0 : Int64) (((64 : Int64) * (((p1 &&& (2147483647 : Int32)) - ((p1 &&& (2147483647 : Int32)) / (2147483640 : Int32)) * (2147483640 : Int32)).toInt64)) - ((p2 &&& (63 : Int32)).toInt64)))), .second, .val (.int (v2 (v1 (0 : Int64) (((64 : Int64) * (((p1 &&& (2147483647 : Int32)) - ((p1 &&& (2147483647 : Int32)) / (2147483640 : Int32)) * (2147483640 : Int32)).toInt64)) - ((p2 &&& (63 : Int32)).toInt64)))))] [(.int (lcmpW ((v2 (v1 (0 : Int64) (((64 : Int64) * (((p1 &&& (2147483647 : Int32)) - ((p1 &&& (2147483647 : Int32)) / (2147483640 : Int32)) * (2147483640 : Int32)).toInt64)) - ((p2 &&& (63 : Int32)).toInt64)))).toInt64) (((p1 &&& (2147483647 : Int32)) - ((p1 &&& (2147483647 : Int32)) / (2147483640 : Int32)) * (2147483640 : Int32)).toInt64)))])) _
    by_cases hc42_3 : (lcmpW ((v2 (v1 (0 : Int64) (((64 : Int64) * (((p1 &&& (2147483647 : Int32)) - ((p1 &&& (2147483647 : Int32)) / (2147483640 : Int32)) * (2147483640 : Int32)).toInt64)) - ((p2 &&& (63 : Int32)).toInt64)))).toInt64) (((p1 &&& (2147483647 : Int32)) - ((p1 &&& (2147483647 : Int32)) / (2147483640 : Int32)) * (2147483640 : Int32)).toInt64)) = (0 : Int32)
    · refine XS.ifNo X2.here hx rfl (hb hby at_42) rfl ((if0 _ _).trans (teq hc42_3).2) ?_
      show Steps p.tables e below (T2.setTop (mkF m 45 #[.val (.int p1), .val (.int p2), .val (.long (((p1 &&& (2147483647 : Int32)) - ((p1 &&& (2147483647 : Int32)) / (2147483640 : Int32)) * (2147483640 : Int32)).toInt64)), .second, .val (.long ((p2 &&& (63 : Int32)).toInt64)), .second, .val (.long (v1 (0 : Int64) (((64 : Int64) * (((p1 &&& (2147483647 : Int32)) - ((p1 &&& (2147483647 : Int32)) / (2147483640 : Int32)) * (2147483640 : Int32)).toInt64)) - ((p2 &&& (63 : Int32)).toInt64)))), .second, .val (.int (v2 (v1 (0 : Int64) (((64 : Int64) * (((p1 &&& (2147483647 : Int32)) - ((p1 &&& (2147483647 : Int32)) / (2147483640 : Int32)) * (2147483640 : Int32)).toInt64)) - ((p2 &&& (63 : Int32)).toInt64)))))] [])) _
      refine XS.iconst X2.here hx rfl (hb hby at_45) ?_
      show Steps p.tables e below (T2.setTop (mkF m 46 #[.val (.int p1), .val (.int p2), .val (.long (((p1 &&& (2147483647 : Int32)) - ((p1 &&& (2147483647 : Int32)) / (2147483640 : Int32)) * (2147483640 : Int32)).toInt64)), .second, .val (.long ((p2 &&& (63 : Int32)).toInt64)), .second, .val (.long (v1 (0 : Int64) (((64 : Int64) * (((p1 &&& (2147483647 : Int32)) - ((p1 &&& (2147483647 : Int32)) / (2147483640 : Int32)) * (2147483640 : Int32)).toInt64)) - ((p2 &&& (63 : Int32)).toInt64)))), .second, .val (.int (v2 (v1 (0 : Int64) (((64 : Int64) * (((p1 &&& (2147483647 : Int32)) - ((p1 &&& (2147483647 : Int32)) / (2147483640 : Int32)) * (2147483640 : Int32)).toInt64)) - ((p2 &&& (63 : Int32)).toInt64)))))] [(.int (1 : Int32))])) _
      refine XS.goto X2.here hx rfl (pc0 := 46) (pc' := 50) rfl (hb hby at_46) (by decide) (by decide) ?_
      rw [show (j0_50_s0 p1 p2) = (1 : Int32) from (if_pos hc42_3)] at kt
      exact kt
    · refine XS.ifYes X2.here hx rfl (pc0 := 42) (pc' := 49) rfl (hb hby at_42) rfl ((if0 _ _).trans (feq hc42_3).2) (by decide) (by decide) ?_
      show Steps p.tables e below (T2.setTop (mkF m 49 #[.val (.int p1), .val (.int p2), .val (.long (((p1 &&& (2147483647 : Int32)) - ((p1 &&& (2147483647 : Int32)) / (2147483640 : Int32)) * (2147483640 : Int32)).toInt64)), .second, .val (.long ((p2 &&& (63 : Int32)).toInt64)), .second, .val (.long (v1 (0 : Int64) (((64 : Int64) * (((p1 &&& (2147483647 : Int32)) - ((p1 &&& (2147483647 : Int32)) / (2147483640 : Int32)) * (2147483640 : Int32)).toInt64)) - ((p2 &&& (63 : Int32)).toInt64)))), .second, .val (.int (v2 (v1 (0 : Int64) (((64 : Int64) * (((p1 &&& (2147483647 : Int32)) - ((p1 &&& (2147483647 : Int32)) / (2147483640 : Int32)) * (2147483640 : Int32)).toInt64)) - ((p2 &&& (63 : Int32)).toInt64)))))] [])) _
      refine XS.iconst X2.here hx rfl (hb hby at_49) ?_
      rw [show (j0_50_s0 p1 p2) = (0 : Int32) from (if_neg hc42_3)] at kt
      exact kt
  have hnar : nar .boolean (j0_50_s0 p1 p2) = (j0_50_s0 p1 p2) := by
    unfold j0_50_s0
    repeat' split
    all_goals rfl
  obtain ⟨fs, hr, hrun, hended, hW, hsame⟩ := X2.leave (v := some (.int (j0_50_s0 p1 p2))) (fun h => by rw [Bd.returns] at h; cases h)
  refine ⟨_, _, pre0 _ ?_, hrun, hended, _, _, rfl, ?_, ⟨_, rfl⟩, hW, hsame.mono (by decide) (by decide)⟩
  · show Steps p.tables e below (s₁.setTop (mkF m 0 #[.val (.int p1), .val (.int p2), .unset, .unset, .unset, .unset, .unset, .unset, .unset] [])) _
    refine XS.iloadN X0.here hx rfl (hb hby at_0) rfl ?_
    show Steps p.tables e below (s₁.setTop (mkF m 1 #[.val (.int p1), .val (.int p2), .unset, .unset, .unset, .unset, .unset, .unset, .unset] [(.int p1)])) _
    refine X0.ldcInt hx hown (mvT hZ (hw _ (List.mem_of_getElem? (i := 0) rfl))) (g := (mkF m 1 #[.val (.int p1), .val (.int p2), .unset, .unset, .unset, .unset, .unset, .unset, .unset] [(.int p1)])) rfl (hb hby at_1) _ ?_
    show Steps p.tables e below (s₁.setTop (mkF m 3 #[.val (.int p1), .val (.int p2), .unset, .unset, .unset, .unset, .unset, .unset, .unset] [(.int (2147483647 : Int32)), (.int p1)])) _
    refine XS.iand X0.here hx rfl (hb hby at_3) rfl ?_
    show Steps p.tables e below (s₁.setTop (mkF m 4 #[.val (.int p1), .val (.int p2), .unset, .unset, .unset, .unset, .unset, .unset, .unset] [(.int (p1 &&& (2147483647 : Int32)))])) _
    refine X0.ldcInt hx hown (mvT hZ (hw _ (List.mem_of_getElem? (i := 1) rfl))) (g := (mkF m 4 #[.val (.int p1), .val (.int p2), .unset, .unset, .unset, .unset, .unset, .unset, .unset] [(.int (p1 &&& (2147483647 : Int32)))])) rfl (hb hby at_4) _ ?_
    show Steps p.tables e below (s₁.setTop (mkF m 6 #[.val (.int p1), .val (.int p2), .unset, .unset, .unset, .unset, .unset, .unset, .unset] [(.int (2147483640 : Int32)), (.int (p1 &&& (2147483647 : Int32)))])) _
    refine XS.irem X0.here hx rfl (hb hby at_6) rfl (by decide) ?_
    show Steps p.tables e below (s₁.setTop (mkF m 7 #[.val (.int p1), .val (.int p2), .unset, .unset, .unset, .unset, .unset, .unset, .unset] [(.int ((p1 &&& (2147483647 : Int32)) - ((p1 &&& (2147483647 : Int32)) / (2147483640 : Int32)) * (2147483640 : Int32)))])) _
    refine XS.i2l X0.here hx rfl (hb hby at_7) rfl ?_
    show Steps p.tables e below (s₁.setTop (mkF m 8 #[.val (.int p1), .val (.int p2), .unset, .unset, .unset, .unset, .unset, .unset, .unset] [(.long (((p1 &&& (2147483647 : Int32)) - ((p1 &&& (2147483647 : Int32)) / (2147483640 : Int32)) * (2147483640 : Int32)).toInt64))])) _
    refine XS.lstoreN X0.here hx rfl (hb hby at_8) rfl (l' := #[.val (.int p1), .val (.int p2), .val (.long (((p1 &&& (2147483647 : Int32)) - ((p1 &&& (2147483647 : Int32)) / (2147483640 : Int32)) * (2147483640 : Int32)).toInt64)), .second, .unset, .unset, .unset, .unset, .unset]) rfl ?_
    show Steps p.tables e below (s₁.setTop (mkF m 9 #[.val (.int p1), .val (.int p2), .val (.long (((p1 &&& (2147483647 : Int32)) - ((p1 &&& (2147483647 : Int32)) / (2147483640 : Int32)) * (2147483640 : Int32)).toInt64)), .second, .unset, .unset, .unset, .unset, .unset] [])) _
    refine XS.iloadN X0.here hx rfl (hb hby at_9) rfl ?_
    show Steps p.tables e below (s₁.setTop (mkF m 10 #[.val (.int p1), .val (.int p2), .val (.long (((p1 &&& (2147483647 : Int32)) - ((p1 &&& (2147483647 : Int32)) / (2147483640 : Int32)) * (2147483640 : Int32)).toInt64)), .second, .unset, .unset, .unset, .unset, .unset] [(.int p2)])) _
    refine XS.bipush X0.here hx rfl (hb hby at_10) ?_
    show Steps p.tables e below (s₁.setTop (mkF m 12 #[.val (.int p1), .val (.int p2), .val (.long (((p1 &&& (2147483647 : Int32)) - ((p1 &&& (2147483647 : Int32)) / (2147483640 : Int32)) * (2147483640 : Int32)).toInt64)), .second, .unset, .unset, .unset, .unset, .unset] [(.int (63 : Int32)), (.int p2)])) _
    refine XS.iand X0.here hx rfl (hb hby at_12) rfl ?_
    show Steps p.tables e below (s₁.setTop (mkF m 13 #[.val (.int p1), .val (.int p2), .val (.long (((p1 &&& (2147483647 : Int32)) - ((p1 &&& (2147483647 : Int32)) / (2147483640 : Int32)) * (2147483640 : Int32)).toInt64)), .second, .unset, .unset, .unset, .unset, .unset] [(.int (p2 &&& (63 : Int32)))])) _
    refine XS.i2l X0.here hx rfl (hb hby at_13) rfl ?_
    show Steps p.tables e below (s₁.setTop (mkF m 14 #[.val (.int p1), .val (.int p2), .val (.long (((p1 &&& (2147483647 : Int32)) - ((p1 &&& (2147483647 : Int32)) / (2147483640 : Int32)) * (2147483640 : Int32)).toInt64)), .second, .unset, .unset, .unset, .unset, .unset] [(.long ((p2 &&& (63 : Int32)).toInt64))])) _
    refine XS.lstore X0.here hx rfl (hb hby at_14) rfl (l' := #[.val (.int p1), .val (.int p2), .val (.long (((p1 &&& (2147483647 : Int32)) - ((p1 &&& (2147483647 : Int32)) / (2147483640 : Int32)) * (2147483640 : Int32)).toInt64)), .second, .val (.long ((p2 &&& (63 : Int32)).toInt64)), .second, .unset, .unset, .unset]) rfl ?_
    show Steps p.tables e below (s₁.setTop (mkF m 16 #[.val (.int p1), .val (.int p2), .val (.long (((p1 &&& (2147483647 : Int32)) - ((p1 &&& (2147483647 : Int32)) / (2147483640 : Int32)) * (2147483640 : Int32)).toInt64)), .second, .val (.long ((p2 &&& (63 : Int32)).toInt64)), .second, .unset, .unset, .unset] [])) _
    refine XS.lconst X0.here hx rfl (hb hby at_16) ?_
    show Steps p.tables e below (s₁.setTop (mkF m 17 #[.val (.int p1), .val (.int p2), .val (.long (((p1 &&& (2147483647 : Int32)) - ((p1 &&& (2147483647 : Int32)) / (2147483640 : Int32)) * (2147483640 : Int32)).toInt64)), .second, .val (.long ((p2 &&& (63 : Int32)).toInt64)), .second, .unset, .unset, .unset] [(.long (0 : Int64))])) _
    refine X0.ldc2Long hx hown (mvT hZ (hw _ (List.mem_of_getElem? (i := 2) rfl))) (g := (mkF m 17 #[.val (.int p1), .val (.int p2), .val (.long (((p1 &&& (2147483647 : Int32)) - ((p1 &&& (2147483647 : Int32)) / (2147483640 : Int32)) * (2147483640 : Int32)).toInt64)), .second, .val (.long ((p2 &&& (63 : Int32)).toInt64)), .second, .unset, .unset, .unset] [(.long (0 : Int64))])) rfl (hb hby at_17) _ ?_
    show Steps p.tables e below (s₁.setTop (mkF m 20 #[.val (.int p1), .val (.int p2), .val (.long (((p1 &&& (2147483647 : Int32)) - ((p1 &&& (2147483647 : Int32)) / (2147483640 : Int32)) * (2147483640 : Int32)).toInt64)), .second, .val (.long ((p2 &&& (63 : Int32)).toInt64)), .second, .unset, .unset, .unset] [(.long (64 : Int64)), (.long (0 : Int64))])) _
    refine XS.lloadN X0.here hx rfl (hb hby at_20) rfl ?_
    show Steps p.tables e below (s₁.setTop (mkF m 21 #[.val (.int p1), .val (.int p2), .val (.long (((p1 &&& (2147483647 : Int32)) - ((p1 &&& (2147483647 : Int32)) / (2147483640 : Int32)) * (2147483640 : Int32)).toInt64)), .second, .val (.long ((p2 &&& (63 : Int32)).toInt64)), .second, .unset, .unset, .unset] [(.long (((p1 &&& (2147483647 : Int32)) - ((p1 &&& (2147483647 : Int32)) / (2147483640 : Int32)) * (2147483640 : Int32)).toInt64)), (.long (64 : Int64)), (.long (0 : Int64))])) _
    refine XS.lmul X0.here hx rfl (hb hby at_21) rfl ?_
    show Steps p.tables e below (s₁.setTop (mkF m 22 #[.val (.int p1), .val (.int p2), .val (.long (((p1 &&& (2147483647 : Int32)) - ((p1 &&& (2147483647 : Int32)) / (2147483640 : Int32)) * (2147483640 : Int32)).toInt64)), .second, .val (.long ((p2 &&& (63 : Int32)).toInt64)), .second, .unset, .unset, .unset] [(.long ((64 : Int64) * (((p1 &&& (2147483647 : Int32)) - ((p1 &&& (2147483647 : Int32)) / (2147483640 : Int32)) * (2147483640 : Int32)).toInt64))), (.long (0 : Int64))])) _
    refine XS.lload X0.here hx rfl (hb hby at_22) rfl ?_
    show Steps p.tables e below (s₁.setTop (mkF m 24 #[.val (.int p1), .val (.int p2), .val (.long (((p1 &&& (2147483647 : Int32)) - ((p1 &&& (2147483647 : Int32)) / (2147483640 : Int32)) * (2147483640 : Int32)).toInt64)), .second, .val (.long ((p2 &&& (63 : Int32)).toInt64)), .second, .unset, .unset, .unset] [(.long ((p2 &&& (63 : Int32)).toInt64)), (.long ((64 : Int64) * (((p1 &&& (2147483647 : Int32)) - ((p1 &&& (2147483647 : Int32)) / (2147483640 : Int32)) * (2147483640 : Int32)).toInt64))), (.long (0 : Int64))])) _
    refine XS.lsub X0.here hx rfl (hb hby at_24) rfl ?_
    show Steps p.tables e below (s₁.setTop (mkF m 25 #[.val (.int p1), .val (.int p2), .val (.long (((p1 &&& (2147483647 : Int32)) - ((p1 &&& (2147483647 : Int32)) / (2147483640 : Int32)) * (2147483640 : Int32)).toInt64)), .second, .val (.long ((p2 &&& (63 : Int32)).toInt64)), .second, .unset, .unset, .unset] [(.long (((64 : Int64) * (((p1 &&& (2147483647 : Int32)) - ((p1 &&& (2147483647 : Int32)) / (2147483640 : Int32)) * (2147483640 : Int32)).toInt64)) - ((p2 &&& (63 : Int32)).toInt64))), (.long (0 : Int64))])) _
    refine st1 _ ?_
    show Steps p.tables e below (T1.setTop (mkF m 28 #[.val (.int p1), .val (.int p2), .val (.long (((p1 &&& (2147483647 : Int32)) - ((p1 &&& (2147483647 : Int32)) / (2147483640 : Int32)) * (2147483640 : Int32)).toInt64)), .second, .val (.long ((p2 &&& (63 : Int32)).toInt64)), .second, .unset, .unset, .unset] [(.long (v1 (0 : Int64) (((64 : Int64) * (((p1 &&& (2147483647 : Int32)) - ((p1 &&& (2147483647 : Int32)) / (2147483640 : Int32)) * (2147483640 : Int32)).toInt64)) - ((p2 &&& (63 : Int32)).toInt64))))])) _
    refine XS.lstore X1.here hx rfl (hb hby at_28) rfl (l' := #[.val (.int p1), .val (.int p2), .val (.long (((p1 &&& (2147483647 : Int32)) - ((p1 &&& (2147483647 : Int32)) / (2147483640 : Int32)) * (2147483640 : Int32)).toInt64)), .second, .val (.long ((p2 &&& (63 : Int32)).toInt64)), .second, .val (.long (v1 (0 : Int64) (((64 : Int64) * (((p1 &&& (2147483647 : Int32)) - ((p1 &&& (2147483647 : Int32)) / (2147483640 : Int32)) * (2147483640 : Int32)).toInt64)) - ((p2 &&& (63 : Int32)).toInt64)))), .second, .unset]) rfl ?_
    show Steps p.tables e below (T1.setTop (mkF m 30 #[.val (.int p1), .val (.int p2), .val (.long (((p1 &&& (2147483647 : Int32)) - ((p1 &&& (2147483647 : Int32)) / (2147483640 : Int32)) * (2147483640 : Int32)).toInt64)), .second, .val (.long ((p2 &&& (63 : Int32)).toInt64)), .second, .val (.long (v1 (0 : Int64) (((64 : Int64) * (((p1 &&& (2147483647 : Int32)) - ((p1 &&& (2147483647 : Int32)) / (2147483640 : Int32)) * (2147483640 : Int32)).toInt64)) - ((p2 &&& (63 : Int32)).toInt64)))), .second, .unset] [])) _
    refine XS.lload X1.here hx rfl (hb hby at_30) rfl ?_
    show Steps p.tables e below (T1.setTop (mkF m 32 #[.val (.int p1), .val (.int p2), .val (.long (((p1 &&& (2147483647 : Int32)) - ((p1 &&& (2147483647 : Int32)) / (2147483640 : Int32)) * (2147483640 : Int32)).toInt64)), .second, .val (.long ((p2 &&& (63 : Int32)).toInt64)), .second, .val (.long (v1 (0 : Int64) (((64 : Int64) * (((p1 &&& (2147483647 : Int32)) - ((p1 &&& (2147483647 : Int32)) / (2147483640 : Int32)) * (2147483640 : Int32)).toInt64)) - ((p2 &&& (63 : Int32)).toInt64)))), .second, .unset] [(.long (v1 (0 : Int64) (((64 : Int64) * (((p1 &&& (2147483647 : Int32)) - ((p1 &&& (2147483647 : Int32)) / (2147483640 : Int32)) * (2147483640 : Int32)).toInt64)) - ((p2 &&& (63 : Int32)).toInt64))))])) _
    refine st2 _ ?_
    show Steps p.tables e below (T2.setTop (mkF m 35 #[.val (.int p1), .val (.int p2), .val (.long (((p1 &&& (2147483647 : Int32)) - ((p1 &&& (2147483647 : Int32)) / (2147483640 : Int32)) * (2147483640 : Int32)).toInt64)), .second, .val (.long ((p2 &&& (63 : Int32)).toInt64)), .second, .val (.long (v1 (0 : Int64) (((64 : Int64) * (((p1 &&& (2147483647 : Int32)) - ((p1 &&& (2147483647 : Int32)) / (2147483640 : Int32)) * (2147483640 : Int32)).toInt64)) - ((p2 &&& (63 : Int32)).toInt64)))), .second, .unset] [(.int (v2 (v1 (0 : Int64) (((64 : Int64) * (((p1 &&& (2147483647 : Int32)) - ((p1 &&& (2147483647 : Int32)) / (2147483640 : Int32)) * (2147483640 : Int32)).toInt64)) - ((p2 &&& (63 : Int32)).toInt64)))))])) _
    refine XS.istore X2.here hx rfl (hb hby at_35) rfl (l' := #[.val (.int p1), .val (.int p2), .val (.long (((p1 &&& (2147483647 : Int32)) - ((p1 &&& (2147483647 : Int32)) / (2147483640 : Int32)) * (2147483640 : Int32)).toInt64)), .second, .val (.long ((p2 &&& (63 : Int32)).toInt64)), .second, .val (.long (v1 (0 : Int64) (((64 : Int64) * (((p1 &&& (2147483647 : Int32)) - ((p1 &&& (2147483647 : Int32)) / (2147483640 : Int32)) * (2147483640 : Int32)).toInt64)) - ((p2 &&& (63 : Int32)).toInt64)))), .second, .val (.int (v2 (v1 (0 : Int64) (((64 : Int64) * (((p1 &&& (2147483647 : Int32)) - ((p1 &&& (2147483647 : Int32)) / (2147483640 : Int32)) * (2147483640 : Int32)).toInt64)) - ((p2 &&& (63 : Int32)).toInt64)))))]) rfl ?_
    show Steps p.tables e below (T2.setTop (mkF m 37 #[.val (.int p1), .val (.int p2), .val (.long (((p1 &&& (2147483647 : Int32)) - ((p1 &&& (2147483647 : Int32)) / (2147483640 : Int32)) * (2147483640 : Int32)).toInt64)), .second, .val (.long ((p2 &&& (63 : Int32)).toInt64)), .second, .val (.long (v1 (0 : Int64) (((64 : Int64) * (((p1 &&& (2147483647 : Int32)) - ((p1 &&& (2147483647 : Int32)) / (2147483640 : Int32)) * (2147483640 : Int32)).toInt64)) - ((p2 &&& (63 : Int32)).toInt64)))), .second, .val (.int (v2 (v1 (0 : Int64) (((64 : Int64) * (((p1 &&& (2147483647 : Int32)) - ((p1 &&& (2147483647 : Int32)) / (2147483640 : Int32)) * (2147483640 : Int32)).toInt64)) - ((p2 &&& (63 : Int32)).toInt64)))))] [])) _
    refine sg37_4 _ ?_
    show Steps p.tables e below (T2.setTop (mkF m 50 #[.val (.int p1), .val (.int p2), .val (.long (((p1 &&& (2147483647 : Int32)) - ((p1 &&& (2147483647 : Int32)) / (2147483640 : Int32)) * (2147483640 : Int32)).toInt64)), .second, .val (.long ((p2 &&& (63 : Int32)).toInt64)), .second, .val (.long (v1 (0 : Int64) (((64 : Int64) * (((p1 &&& (2147483647 : Int32)) - ((p1 &&& (2147483647 : Int32)) / (2147483640 : Int32)) * (2147483640 : Int32)).toInt64)) - ((p2 &&& (63 : Int32)).toInt64)))), .second, .val (.int (v2 (v1 (0 : Int64) (((64 : Int64) * (((p1 &&& (2147483647 : Int32)) - ((p1 &&& (2147483647 : Int32)) / (2147483640 : Int32)) * (2147483640 : Int32)).toInt64)) - ((p2 &&& (63 : Int32)).toInt64)))))] [(.int (j0_50_s0 p1 p2))])) _
    exact retN X2 hx (t := .boolean) Bd.returns (by simp) (hb hby at_50) (by rw [hnar]; exact hr)
  · show Q0 Z p1 p2 h0 n0 _ T2.heap _
    rw [e2]
    exact ⟨rfl, N2, trivial⟩
theorem own_q (p1 : Int32) : 0 ≤ ((p1 &&& (2147483647 : Int32)) - ((p1 &&& (2147483647 : Int32)) / (2147483640 : Int32)) * (2147483640 : Int32)).toInt ∧ ((p1 &&& (2147483647 : Int32)) - ((p1 &&& (2147483647 : Int32)) / (2147483640 : Int32)) * (2147483640 : Int32)).toInt < 2147483640 := by
  have e1 : (p1 &&& (2147483647 : Int32)).toInt = p1.toInt % 2 ^ 31 := Jvm.Kit.i32_mask p1 _ (k := 31) (by decide) (by decide)
  generalize (p1 &&& (2147483647 : Int32)) = x at *
  have hx0 : 0 ≤ x.toInt ∧ x.toInt < 2 ^ 31 := by omega
  have t12 : (2147483640 : Int32).toInt = 2147483640 := by decide
  have e2 : (x / (2147483640 : Int32)).toInt = x.toInt / 2147483640 := by rw [Jvm.Kit.i32_div (by omega), t12, Int.tdiv_eq_ediv_of_nonneg hx0.1]
  have e3 : ((x / (2147483640 : Int32)) * (2147483640 : Int32)).toInt = (x.toInt / 2147483640) * 2147483640 := by rw [Jvm.Kit.i32_mul (by rw [e2, t12]; omega) (by rw [e2, t12]; omega), e2, t12]
  have e4 : (x - (x / (2147483640 : Int32)) * (2147483640 : Int32)).toInt = x.toInt - (x.toInt / 2147483640) * 2147483640 := by rw [Jvm.Kit.i32_sub (by rw [e3]; omega) (by rw [e3]; omega), e3]
  omega
theorem own_words (q32 r32 : Int32) (hq : 0 ≤ q32.toInt ∧ q32.toInt < 2147483640) (hr : 0 ≤ r32.toInt ∧ r32.toInt < 64) :
    (v2 (v1 (0 : Int64) (((64 : Int64) * q32.toInt64) - r32.toInt64))).toInt64 = q32.toInt64 := by
  have eq : q32.toInt64.toInt = q32.toInt := Jvm.Kit.i64_of_i32 _
  have er : r32.toInt64.toInt = r32.toInt := Jvm.Kit.i64_of_i32 _
  have t64 : (64 : Int64).toInt = 64 := by decide
  have t1 : (1 : Int64).toInt = 1 := by decide
  have t0 : (0 : Int64).toInt = 0 := by decide
  generalize q32.toInt64 = q at *
  generalize r32.toInt64 = r at *
  have em : ((64 : Int64) * q).toInt = 64 * q.toInt := by rw [Jvm.Kit.i64_mul (by rw [t64]; omega) (by rw [t64]; omega), t64]
  have es : ((64 : Int64) * q - r).toInt = 64 * q.toInt - r.toInt := by rw [Jvm.Kit.i64_sub (by omega) (by omega), em]
  have eb : (v1 (0 : Int64) ((64 : Int64) * q - r)).toInt = if 0 < 64 * q.toInt - r.toInt then 64 * q.toInt - r.toInt else 0 := by
    by_cases h : (0 : Int64) < (64 : Int64) * q - r
    · have h' : 0 < 64 * q.toInt - r.toInt := by rw [Int64.lt_iff_toInt_lt, t0, es] at h; exact h
      rw [show v1 (0 : Int64) ((64 : Int64) * q - r) = (64 : Int64) * q - r from if_pos ((lw_lt _ _).mpr h), es, if_pos h']
    · have h' : ¬ 0 < 64 * q.toInt - r.toInt := by rw [Int64.lt_iff_toInt_lt, t0, es] at h; exact h
      rw [show v1 (0 : Int64) ((64 : Int64) * q - r) = 0 from if_neg fun z => h ((lw_lt _ _).mp z), t0, if_neg h']
  generalize v1 (0 : Int64) ((64 : Int64) * q - r) = b at *
  have hb : 0 ≤ b.toInt ∧ b.toInt < 2 ^ 40 := by split at eb <;> omega
  have ea : (b + (64 : Int64)).toInt = b.toInt + 64 := by rw [Jvm.Kit.i64_add (by omega) (by omega), t64]
  have ec : (b + (64 : Int64) - (1 : Int64)).toInt = b.toInt + 63 := by rw [Jvm.Kit.i64_sub (by omega) (by omega), ea, t1]; omega
  have ed : ((b + (64 : Int64) - (1 : Int64)) / (64 : Int64)).toInt = (b.toInt + 63) / 64 := by rw [Jvm.Kit.i64_div (by omega), ec, t64, Int.tdiv_eq_ediv_of_nonneg (by omega)]
  have hqd : (b.toInt + 63) / 64 = q.toInt := by split at eb <;> omega
  have ew : (v2 b).toInt = q.toInt := by
    show (((b + (64 : Int64)) - (1 : Int64)) / (64 : Int64)).toInt32.toInt = _
    rw [Jvm.Kit.i32_of_i64 (by omega) (by omega), ed, hqd]
  apply Int64.toInt_inj.1
  rw [Jvm.Kit.i64_of_i32, ew]
theorem own_plain (p1 p2 : Int32) : v0 p1 p2 = 1 := by
  have er : (p2 &&& (63 : Int32)).toInt = p2.toInt % 2 ^ 6 := Jvm.Kit.i32_mask p2 _ (k := 6) (by decide) (by decide)
  exact if_pos ((lw_eq _ _).mpr (own_words _ _ (own_q p1) (by omega)))

set_option maxRecDepth 65536 in
set_option maxHeartbeats 40000000 in
theorem comes_1 {Post : Tables → Env → Array Value → State → Outcome → State → Prop} (hpost : ∀ tb e args s v u, (limb_1_1.after args s (.returned v) u = true ∧ limb_1_2.after args s (.returned v) u = true ∧ True) → FrameEnd s (.returned v) u (Jvm.fieldLocs frame_1_writes args s ++ Jvm.arrayLocs frame_1_arrays args s ++ Jvm.staticLocs frame_1_statics s) 0 0 → Post tb e args s (.returned v) u) :
    ArmFor flags0 classFile x code maxLocals ret World_1 tables_1 room_1 Calls_1 rest_1 Pre_1 Post := by
  intro l hfl _ _ p e ha hc hk s m args below hf hA hF happ hP
  obtain ⟨hcalls, hrest, hpre⟩ := hP
  obtain ⟨-, -, -, hnamed, -, -, -, hat⟩ := (Spec.applies_iff hf).mp happ
  obtain ⟨hg, hn⟩ := and_e (Cond.before_iff.mp (show (Jvm.Cond.and given_1 narrow_1).before args s = true from hpre))
  obtain ⟨gc, gr0⟩ := and_e hg
  obtain ⟨ga0, gr1⟩ := and_e gr0
  obtain ⟨w0, w1, rfl⟩ : ∃ w0 w1 : Value, args = #[w0, w1] := by
    have hs : args.size = 2 := by simpa [Cond.value, given_1] using gc
    obtain ⟨L⟩ := args
    match L, hs with
    | [w0, w1], _ => exact ⟨w0, w1, rfl⟩
  have hw := fun d (hd : d ∈ tables_1) => atoms_spec (ws := Jvm.Cond.code x code maxLocals ret :: tables_1) hat d (List.mem_cons_of_mem _ hd)
  obtain ⟨i0, ei0⟩ := is_v ga0
  obtain rfl : w0 = (.int i0) := Option.some.inj ei0
  obtain ⟨i1, ei1⟩ := is_v gr1
  obtain rfl : w1 = (.int i1) := Option.some.inj ei1
  obtain ⟨n, o, h1, h2, h3, _, L, rfl, ⟨rfl, N, -⟩, hq⟩ := rm0 l s _ hw tables_1 i0 i1 s.heap s.heap.size (Nat.le_refl _) p e ha hc hk s m _ below hf ((Spec.applies_iff_loose hf).mp happ).1 ⟨rfl, State.Warmed39.refl s, rfl⟩ trivial
  have hv : v0 i0 i1 = 1 := own_plain i0 i1
  rw [hv] at h3 hq
  refine ⟨n, _, h1, h2, h3, hpost _ _ _ _ _ _ ⟨Cond.after_iff.mpr rfl, Cond.after_iff.mpr (eq_i res_at (Term.int_eval (1)) rfl), trivial⟩ ⟨hq.1, hq.2.1, (hq.2.2.sift fun y hy => Or.inr (N y hy)).mono (by decide) (by decide)⟩⟩
theorem main_1_1 : Claimed_1_1 := comes_1 fun _ _ _ _ _ _ h hF => ⟨h.1, hF⟩
theorem main_1_2 : Claimed_1_2 := comes_1 fun _ _ _ _ _ _ h hF => ⟨h.2.1, hF⟩
end Jvm.Pilot.@@N@@
namespace Jvm.Pilot.@@N@@
open Jvm Jvm.ClassFile Sem Op Lib Jvm.Free Jvm.Stand Jvm.Pilot.@@N@@.Jvm.D
/-! MADE BY PROGRAM (witnessworld.py) out of the Statement's table words and the real class files: 10 classes; the members and pool entries that the words name. The judged class is class 1, her method 1. -/
namespace start1
open Jvm.ClassFile
def u (s : String) : CpInfo := .utf8 (stringToUtf16 s)
/-- a pool by its gaps: so many unusable entries, then the entry; so many at the end -/
def gap : Nat → List CpInfo → List CpInfo
  | 0, r => r
  | n + 1, r => .unusable :: gap n r
def poolList (es : List (Nat × CpInfo)) (last : Nat) : List CpInfo := es.foldr (fun e r => gap e.1 (e.2 :: r)) (gap last [])
def pool (es : List (Nat × CpInfo)) (last : Nat) : Array CpInfo := ⟨poolList es last⟩
def fileOf (pool : Array CpInfo) (this : Nat) (attrs : Array Attribute := #[]) (ms : Array MethodInfo := #[]) (fl : Nat := 33) (sup : Nat := 0) (ifs : Array Nat := #[]) (fds : Array FieldInfo := #[]) : ClassFile where
  minorVersion := 0
  majorVersion := 65
  constantPool := pool
  accessFlags := fl
  thisClass := this
  superClass := sup
  interfaces := ifs
  fields := fds
  methods := ms
  attributes := attrs
def plain (name : String) (sup : Option ClassId) : Class where
  name := name
  kind := .ordinary
  loader := none
  accessFlags := 33
  super := sup
  interfaces := #[]
  cf := none
  fields := #[]
  methods := #[]
  instanceTypes := #[]
  staticTypes := #[]
  resolved := #[]
  callSites := []
  init := .initialized
  statics := none
  mirror := none

def pool0 : Array CpInfo := pool [(5, u "<init>"), (0, u "()V"), (1, .class_ 10), (1, u "java/lang/Object")] 113

def k0m0 : Method := { name := "<init>", desc := "()V", sig := { parameters := [], returnType := none }, accessFlags := 1, code := none }
/-- java/lang/Object -/
def k0 : Class := { plain "java/lang/Object" none with
  accessFlags := 33
  interfaces := #[]
  cf := some (fileOf pool0 8 #[] #[{ accessFlags := 1, nameIndex := 5, descriptorIndex := 6, attributes := #[] }] 33 0 #[] #[])
  fields := #[]
  methods := #[k0m0]
  instanceTypes := #[]
  staticTypes := #[]
  resolved := Array.replicate 124 none
  statics := none }

def pool1 : Array CpInfo := pool [(2, .class_ 4), (1, u "java/lang/Object"), (0, u "<init>"), (0, u "()V"), (0, .integer 2147483647), (0, .integer 2147483640), (0, .long 64), (1, .methodref 12 13), (0, .class_ 14), (0, .nameAndType 15 16), (0, u "java/lang/Math"), (0, u "max"), (0, u "(JJ)J"), (0, .methodref 18 19), (0, .class_ 20), (0, .nameAndType 21 22), (0, u "com/example/maybe_set/maybeset/FilterFile"), (0, u "wordCount"), (0, u "(J)I"), (0, .class_ 24), (0, u "com/example/maybe_set/maybeset/FilterFileWordCountPinLaw"), (2, u "law"), (0, u "(II)Z")] 3

def k1m0 : Method := { name := "<init>", desc := "()V", sig := { parameters := [], returnType := none }, accessFlags := 2, code := none }
def k1c1 : Code := { maxStack := 6, maxLocals := 9, code := code, exceptionTable := #[], attributes := #[] }
def k1m1 : Method := { name := "law", desc := "(II)Z", sig := { parameters := [.int, .int], returnType := some .boolean }, accessFlags := 9, code := some k1c1 }
/-- com/example/maybe_set/maybeset/FilterFileWordCountPinLaw -/
def k1 : Class := { plain "com/example/maybe_set/maybeset/FilterFileWordCountPinLaw" (some 0) with
  accessFlags := 49
  interfaces := #[]
  cf := some (fileOf pool1 23 #[] #[{ accessFlags := 2, nameIndex := 5, descriptorIndex := 6, attributes := #[] }, { accessFlags := 9, nameIndex := 27, descriptorIndex := 28, attributes := #[] }] 49 2 #[] #[])
  fields := #[]
  methods := #[k1m0, k1m1]
  instanceTypes := #[]
  staticTypes := #[]
  resolved := Array.replicate 32 none
  statics := none }

def pool2 : Array CpInfo := pool [(1, .class_ 2), (0, u "java/lang/Math"), (1, .class_ 6), (1, u "java/lang/Object"), (0, u "<init>"), (0, u "()V"), (89, .class_ 100), (1, u "java/lang/Math$RandomNumberGeneratorHolder"), (20, u "(JJ)J"), (50, u "negativeZeroFloatBits"), (0, u "J"), (2, u "negativeZeroDoubleBits"), (21, u "max"), (46, u "$assertionsDisabled"), (0, u "Z"), (91, u "twoToTheDoubleScaleDown"), (0, u "D"), (4, u "twoToTheDoubleScaleUp"), (9, u "E"), (3, u "PI"), (2, u "TAU"), (2, u "DEGREES_TO_RADIANS"), (0, u "RADIANS_TO_DEGREES")] 94

def k2m0 : Method := { name := "<init>", desc := "()V", sig := { parameters := [], returnType := none }, accessFlags := 2, code := none }
def k2c1 : Code := { maxStack := 4, maxLocals := 4, code := jdk_29_method_66_code, exceptionTable := #[], attributes := #[] }
def k2m1 : Method := { name := "max", desc := "(JJ)J", sig := { parameters := [.long, .long], returnType := some .long }, accessFlags := 9, code := some k2c1 }
/-- java/lang/Math -/
def k2 : Class := { plain "java/lang/Math" (some 0) with
  accessFlags := 49
  interfaces := #[]
  cf := some (fileOf pool2 1 #[.nestMembers #[98]] #[{ accessFlags := 2, nameIndex := 7, descriptorIndex := 8, attributes := #[] }, { accessFlags := 9, nameIndex := 198, descriptorIndex := 121, attributes := #[] }] 49 4 #[] #[{ accessFlags := 25, nameIndex := 354, descriptorIndex := 339, attributes := #[] }, { accessFlags := 25, nameIndex := 358, descriptorIndex := 339, attributes := #[] }, { accessFlags := 25, nameIndex := 361, descriptorIndex := 339, attributes := #[] }, { accessFlags := 26, nameIndex := 364, descriptorIndex := 339, attributes := #[] }, { accessFlags := 26, nameIndex := 365, descriptorIndex := 339, attributes := #[] }, { accessFlags := 26, nameIndex := 172, descriptorIndex := 173, attributes := #[] }, { accessFlags := 26, nameIndex := 176, descriptorIndex := 173, attributes := #[] }, { accessFlags := 8, nameIndex := 344, descriptorIndex := 339, attributes := #[] }, { accessFlags := 8, nameIndex := 338, descriptorIndex := 339, attributes := #[] }, { accessFlags := 4120, nameIndex := 245, descriptorIndex := 246, attributes := #[] }])
  fields := #[{ name := "E", type := .double, accessFlags := 25, slot := 0, constantValue := 0 }, { name := "PI", type := .double, accessFlags := 25, slot := 1, constantValue := 0 }, { name := "TAU", type := .double, accessFlags := 25, slot := 2, constantValue := 0 }, { name := "DEGREES_TO_RADIANS", type := .double, accessFlags := 26, slot := 3, constantValue := 0 }, { name := "RADIANS_TO_DEGREES", type := .double, accessFlags := 26, slot := 4, constantValue := 0 }, { name := "negativeZeroFloatBits", type := .long, accessFlags := 26, slot := 5, constantValue := 0 }, { name := "negativeZeroDoubleBits", type := .long, accessFlags := 26, slot := 6, constantValue := 0 }, { name := "twoToTheDoubleScaleUp", type := .double, accessFlags := 8, slot := 7, constantValue := 0 }, { name := "twoToTheDoubleScaleDown", type := .double, accessFlags := 8, slot := 8, constantValue := 0 }, { name := "$assertionsDisabled", type := .boolean, accessFlags := 4120, slot := 9, constantValue := 0 }]
  methods := #[k2m0, k2m1]
  instanceTypes := #[]
  staticTypes := #[.double, .double, .double, .double, .double, .long, .long, .double, .double, .boolean]
  resolved := Array.replicate 460 none
  statics := none }

def pool3 : Array CpInfo := pool [(2, .class_ 4), (1, u "java/lang/Object"), (0, u "<init>"), (0, u "()V"), (9, .class_ 18), (1, u "com/example/maybe_set/maybeset/FilterFile$Contents"), (2, .class_ 22), (0, u "com/example/maybe_set/maybeset/FilterFile"), (18, u "SIGNATURE"), (0, u "[B"), (9, .class_ 54), (1, u "com/example/maybe_set/maybeset/FilterFile$Header"), (7, u "I"), (102, u "WORDS"), (0, u "Ljava/lang/invoke/VarHandle;"), (236, .long 64), (8, u "wordCount"), (0, u "(J)I"), (55, u "UNKNOWN_ADDED"), (0, u "J"), (1, u "VERSION"), (1, u "HEADER_LENGTH"), (1, u "VERSION_OFFSET"), (1, u "KIND_OFFSET"), (1, u "HASHES_OFFSET"), (1, u "POSITIONS_OFFSET"), (1, u "ADDED_OFFSET"), (1, u "EXPECTED_OFFSET"), (1, u "FPP_OFFSET"), (1, u "CHECKSUM_LENGTH"), (1, u "CHUNK_LENGTH")] 56

def k3m0 : Method := { name := "<init>", desc := "()V", sig := { parameters := [], returnType := none }, accessFlags := 2, code := none }
def k3c1 : Code := { maxStack := 4, maxLocals := 2, code := prog_17_method_13_code, exceptionTable := #[], attributes := #[] }
def k3m1 : Method := { name := "wordCount", desc := "(J)I", sig := { parameters := [.long], returnType := some .int }, accessFlags := 8, code := some k3c1 }
/-- com/example/maybe_set/maybeset/FilterFile -/
def k3 : Class := { plain "com/example/maybe_set/maybeset/FilterFile" (some 0) with
  accessFlags := 48
  interfaces := #[]
  cf := some (fileOf pool3 21 #[.nestMembers #[16, 52]] #[{ accessFlags := 2, nameIndex := 5, descriptorIndex := 6, attributes := #[] }, { accessFlags := 8, nameIndex := 412, descriptorIndex := 413, attributes := #[] }] 48 2 #[] #[{ accessFlags := 24, nameIndex := 469, descriptorIndex := 470, attributes := #[] }, { accessFlags := 26, nameIndex := 41, descriptorIndex := 42, attributes := #[] }, { accessFlags := 26, nameIndex := 472, descriptorIndex := 62, attributes := #[] }, { accessFlags := 26, nameIndex := 474, descriptorIndex := 62, attributes := #[] }, { accessFlags := 26, nameIndex := 476, descriptorIndex := 62, attributes := #[] }, { accessFlags := 26, nameIndex := 478, descriptorIndex := 62, attributes := #[] }, { accessFlags := 26, nameIndex := 480, descriptorIndex := 62, attributes := #[] }, { accessFlags := 26, nameIndex := 482, descriptorIndex := 62, attributes := #[] }, { accessFlags := 26, nameIndex := 484, descriptorIndex := 62, attributes := #[] }, { accessFlags := 26, nameIndex := 486, descriptorIndex := 62, attributes := #[] }, { accessFlags := 26, nameIndex := 488, descriptorIndex := 62, attributes := #[] }, { accessFlags := 26, nameIndex := 490, descriptorIndex := 62, attributes := #[] }, { accessFlags := 26, nameIndex := 492, descriptorIndex := 62, attributes := #[] }, { accessFlags := 26, nameIndex := 165, descriptorIndex := 166, attributes := #[] }])
  fields := #[{ name := "UNKNOWN_ADDED", type := .long, accessFlags := 24, slot := 0, constantValue := 0 }, { name := "SIGNATURE", type := (.array .byte), accessFlags := 26, slot := 1, constantValue := 0 }, { name := "VERSION", type := .int, accessFlags := 26, slot := 2, constantValue := 0 }, { name := "HEADER_LENGTH", type := .int, accessFlags := 26, slot := 3, constantValue := 0 }, { name := "VERSION_OFFSET", type := .int, accessFlags := 26, slot := 4, constantValue := 0 }, { name := "KIND_OFFSET", type := .int, accessFlags := 26, slot := 5, constantValue := 0 }, { name := "HASHES_OFFSET", type := .int, accessFlags := 26, slot := 6, constantValue := 0 }, { name := "POSITIONS_OFFSET", type := .int, accessFlags := 26, slot := 7, constantValue := 0 }, { name := "ADDED_OFFSET", type := .int, accessFlags := 26, slot := 8, constantValue := 0 }, { name := "EXPECTED_OFFSET", type := .int, accessFlags := 26, slot := 9, constantValue := 0 }, { name := "FPP_OFFSET", type := .int, accessFlags := 26, slot := 10, constantValue := 0 }, { name := "CHECKSUM_LENGTH", type := .int, accessFlags := 26, slot := 11, constantValue := 0 }, { name := "CHUNK_LENGTH", type := .int, accessFlags := 26, slot := 12, constantValue := 0 }, { name := "WORDS", type := (.object "java/lang/invoke/VarHandle"), accessFlags := 26, slot := 13, constantValue := 0 }]
  methods := #[k3m0, k3m1]
  instanceTypes := #[]
  staticTypes := #[.long, (.array .byte), .int, .int, .int, .int, .int, .int, .int, .int, .int, .int, .int, (.object "java/lang/invoke/VarHandle")]
  resolved := Array.replicate 549 none
  statics := none }

def pool4 : Array CpInfo := pool [(1, u "java/lang/Cloneable"), (0, .class_ 1), (0, u "java/lang/Object"), (0, .class_ 3)] 3

/-- java/lang/Cloneable -/
def k4 : Class := { plain "java/lang/Cloneable" (some 0) with
  accessFlags := 1537
  interfaces := #[]
  cf := some (fileOf pool4 2 #[] #[] 1537 4 #[] #[])
  fields := #[]
  methods := #[]
  instanceTypes := #[]
  staticTypes := #[]
  resolved := Array.replicate 8 none
  statics := none }

def pool5 : Array CpInfo := pool [(1, u "java/io/Serializable"), (0, .class_ 1), (0, u "java/lang/Object"), (0, .class_ 3)] 3

/-- java/io/Serializable -/
def k5 : Class := { plain "java/io/Serializable" (some 0) with
  accessFlags := 1537
  interfaces := #[]
  cf := some (fileOf pool5 2 #[] #[] 1537 4 #[] #[])
  fields := #[]
  methods := #[]
  instanceTypes := #[]
  staticTypes := #[]
  resolved := Array.replicate 8 none
  statics := none }

/-- the primitive byte -/
def k6 : Class := { plain "byte" none with kind := .primitive 'B', accessFlags := 0x411 }
/-- [B -/
def k7 : Class := { plain "[B" (some 0) with kind := .array 6 .byte, interfaces := #[4, 5], accessFlags := 1041 }

/-- the primitive int -/
def k8 : Class := { plain "int" none with kind := .primitive 'I', accessFlags := 0x411 }
/-- [I -/
def k9 : Class := { plain "[I" (some 0) with kind := .array 8 .int, interfaces := #[4, 5], accessFlags := 1041 }

def heap : Heap := #[]
def classes : Array Class := #[k0, k1, k2, k3, k4, k5, k6, k7, k8, k9]
def interned : List (Array UInt16 × Addr) := []
def slotsUsed : Nat := 0
def theMethod : MethodId := ⟨1, 1⟩
def args0 : Array Value := #[.int 5, .int 3]
def aboutOver (below : List Frame) : State where
  vm := { classes := classes, interned := interned.toArray }
  heap := heap
  slotsUsed := slotsUsed
  threads := #[{ frames := .invoking theMethod args0 :: below }]
def below0 : List Frame := [.native { method := ⟨0, 0⟩, args := #[] }]
def about1 : State := aboutOver below0
def p0 : Program := .bare "" "" ""
def e0 : Env := launch0.env 0 0 0
theorem w_frames : about1.frames = Frame.invoking theMethod args0 :: below0 := rfl
set_option maxRecDepth 65536 in
theorem w_args : argsFit about1.vm theMethod args0 = true := by decide +kernel
set_option maxRecDepth 65536 in
theorem w_heap : heapFits about1 = true := by decide +kernel
set_option maxRecDepth 65536 in
theorem w_runnable : about1.curStatus? = some .runnable := by decide +kernel
set_option maxRecDepth 65536 in
theorem w_alone : about1.alone = true := by decide +kernel
set_option maxRecDepth 65536 in
theorem w_named : about1.methodNamed? x = some theMethod := by decide +kernel
set_option maxRecDepth 65536 in
theorem w_hears : about1.hears theMethod below0 = true := by decide +kernel
set_option maxRecDepth 65536 in
theorem w_ripe : about1.ripe theMethod args0 below0 = true := by decide +kernel
theorem w_running : about1.status = .running := rfl
set_option maxRecDepth 65536 in
theorem w_room : about1.hasRoom e0.platform room_1 = true :=
  launch0.hasRoom_least _ room_1 (by decide +kernel) (by decide +kernel) (by decide +kernel) (by decide +kernel) (by decide +kernel) (by decide +kernel)
theorem allAtoms_all (ts : List Jvm.Cond) (a : Array Jvm.Value) (st : Jvm.State) : (allAtoms ts).before a st = ts.all (fun c => c.before a st) := by
  induction ts with
  | nil => rfl
  | cons c t ih =>
    show (Jvm.Cond.and c (allAtoms t)).before a st = _
    rw [Jvm.Cond.before_and, ih, List.all_cons]
def words1 : List Jvm.Cond := Jvm.Cond.code x code maxLocals ret :: tables_1
/-- a 'code' word, met by the world's own term for the bytes: nothing is compared byte by byte -/
theorem code_word {y : MethodName} {bytes : ByteArray} {mx : Nat} {rt : Option FieldType} {a : Array Value} {s : State} {m : MethodId} {meth : Method} {c : Code} (h1 : s.methodNamed? y = some m) (h2 : s.vm.method? m = some meth) (h3 : meth.code = some c) (h4 : c.code = bytes)
    (h5 : (c.maxLocals == mx && c.exceptionTable.isEmpty && decide (c.maxStack ≤ mostOperands) && decide (meth.sig.returnType = rt) && !meth.locks && decide (parseMethodDescriptor y.desc = some meth.sig)) = true) : (Jvm.Cond.code y bytes mx rt).before a s = true := by
  simp only [Bool.and_eq_true, beq_iff_eq, Bool.not_eq_true', decide_eq_true_eq] at h5
  obtain ⟨⟨⟨⟨⟨g1, g2⟩, g3⟩, g4⟩, g5⟩, g6⟩ := h5
  simp [Cond.before, Cond.holds, Cond.value, h1, h2, h3, h4, g1, g2, g3, g4, g5, g6]
def isCode : Jvm.Cond → Bool
  | .code _ _ _ _ => true
  | _ => false
theorem all_split {L : List Jvm.Cond} {P : Jvm.Cond → Bool} (h1 : L.all (fun c => isCode c || P c) = true) (h2 : ∀ c ∈ L.filter isCode, P c = true) : L.all P = true := by
  refine List.all_eq_true.mpr fun c hc => ?_
  have h := List.all_eq_true.mp h1 c hc
  rcases Bool.eq_false_or_eq_true (isCode c) with hi | hi
  · exact h2 c (List.mem_filter.mpr ⟨hc, hi⟩)
  · simpa [hi] using h
set_option maxRecDepth 65536 in
theorem w_c0 : (Jvm.Cond.code x code maxLocals ret).before args0 about1 = true := code_word (m := ⟨1, 1⟩) (meth := k1m1) (c := k1c1) (by decide +kernel) rfl rfl rfl (by decide +kernel)
set_option maxRecDepth 65536 in
theorem w_c1 : (Jvm.Cond.code ({ cls := "java/lang/Math", name := "max", desc := "(JJ)J" } : Jvm.MethodName) jdk_29_method_66_code (4 : Nat) (Option.some Jvm.ClassFile.FieldType.long)).before args0 about1 = true := code_word (m := ⟨2, 1⟩) (meth := k2m1) (c := k2c1) (by decide +kernel) rfl rfl rfl (by decide +kernel)
set_option maxRecDepth 65536 in
theorem w_c2 : (Jvm.Cond.code ({ cls := "com/example/maybe_set/maybeset/FilterFile", name := "wordCount", desc := "(J)I" } : Jvm.MethodName) prog_17_method_13_code (2 : Nat) (Option.some Jvm.ClassFile.FieldType.int)).before args0 about1 = true := code_word (m := ⟨3, 1⟩) (meth := k3m1) (c := k3c1) (by decide +kernel) rfl rfl rfl (by decide +kernel)
def codes1 : List Jvm.Cond := [Jvm.Cond.code x code maxLocals ret, Jvm.Cond.code ({ cls := "java/lang/Math", name := "max", desc := "(JJ)J" } : Jvm.MethodName) jdk_29_method_66_code (4 : Nat) (Option.some Jvm.ClassFile.FieldType.long), Jvm.Cond.code ({ cls := "com/example/maybe_set/maybeset/FilterFile", name := "wordCount", desc := "(J)I" } : Jvm.MethodName) prog_17_method_13_code (2 : Nat) (Option.some Jvm.ClassFile.FieldType.int)]
set_option maxRecDepth 65536 in
theorem codes_eq : words1.filter isCode = codes1 := rfl
theorem w_codes : ∀ c ∈ words1.filter isCode, c.before args0 about1 = true := by
  rw [codes_eq]
  intro c hc
  simp only [codes1, List.mem_cons, List.not_mem_nil, or_false] at hc
  rcases hc with rfl | rfl | rfl
  · exact w_c0
  · exact w_c1
  · exact w_c2
set_option maxRecDepth 65536 in
theorem w_t1 : words1.all (fun c => isCode c || c.before args0 about1) = true := by decide +kernel
theorem w_tables : (allAtoms (Jvm.Cond.code x code maxLocals ret :: tables_1)).before args0 about1 = true := by
  rw [allAtoms_all]
  show words1.all (fun c => c.before args0 about1) = true
  refine all_split ?_ w_codes
  rw [w_t1]
set_option maxRecDepth 65536 in
theorem w_case : (Jvm.Cond.and given_1 narrow_1).before args0 about1 = true := by decide +kernel
theorem w_applies : (headSpec (Jvm.Cond.code x code maxLocals ret :: tables_1) room_1).applies x e0.platform about1 = true :=
  (Spec.applies_iff w_frames).mpr ⟨w_running, w_runnable, w_alone, w_named, w_hears, w_ripe, w_room, w_tables⟩
theorem atStart : AtStart classFile x code maxLocals ret World_1 tables_1 room_1 Calls_1 rest_1 Pre_1 launch0 p0 e0 about1 theMethod args0 below0 :=
  ⟨lists_1, trivial, launch0.admits_env _ _ _, launch0.least_env, fairChoices_fair.cas, fairChoices_fair.clock, w_frames, w_args, w_heap, w_applies, trivial, trivial, w_case⟩
end start1
theorem witness_1 : WitnessClaimed_1 := ⟨start1.p0, start1.e0, start1.about1, start1.theMethod, start1.args0, start1.below0, start1.atStart⟩
end Jvm.Pilot.@@N@@
