import JvmDerived
import JvmDerived.Pilot.@@N@@Statement
import JvmDerived.Pilot.@@N@@Code
set_option linter.unusedVariables false
set_option linter.unusedSimpArgs false
@@BLOCK:NumsL.lean.txt@@
namespace Jvm.RoadKit
open Sem ClassFile Op Lib Jvm.Stand Jvm.Free Jvm.LawKit
section New
variable {p : Program} {l : Launch} {e : Env} {R : Room} {s : State} {m : MethodId} {args : Array Value} {below : List Frame} {meth : Method} {c : Code} {T : State} {locs : List Loc} {cells slots : Nat}
theorem retI (X : Stand p l e R s m args below meth c T locs cells slots) (hx : p.tables.exec = Jvm.exec) {pc : Nat} {Ls : Array Slot} {z : Int32} {rest : List Value} (hret : meth.sig.returnType = some .int) (hd : decode c.code pc = .ok (.ireturn, 1)) {fs : List Frame}
    (hl : ∀ (f : JFrame) (acts : List Action), f.method = m → f.locked = none → f.entered = [] → (doReturn e (T.setTop f) acts (some (.int z))).1 = T.setFrames fs) : Steps p.tables e below (T.setTop (mkF m pc Ls (.int z :: rest))) (T.setFrames fs) := by
  have hm' : T.vm.method? m = some meth := X.method'
  have hn : narrow .int (.int z) = .int z := rfl
  show Steps p.tables e below (T.setTop { method := m, pc := pc, locals := Ls, stack := _ :: rest, locked := none }) _
  jvm_step X.here [X.here.top, hx, hd, hm', hret, hn]
  first | (intro acts; rw [hl _ acts rfl rfl rfl]) | rw [hl _ _ rfl rfl rfl]
  exact Steps.refl _
end New
end Jvm.RoadKit
namespace Jvm.Pilot.@@N@@
open Jvm Jvm.ClassFile Sem Op Lib Jvm.Free Jvm.Stand Jvm.LawKit Jvm.RoadKit Bundle Jvm.Pilot.@@N@@.Jvm.D
def own_bases : List Int32 := [0, 9, 10, 13, 32, 55295, 57344, 65533, 65535, 65536, 1114111, -2147483648]
def own_at (j : Int32) : Int32 := own_bases.getD j.toNatClampNeg 0
theorem own_getD (i : Nat) : ([(.int (0 : Int32)), (.int (9 : Int32)), (.int (10 : Int32)), (.int (13 : Int32)), (.int (32 : Int32)), (.int (55295 : Int32)), (.int (57344 : Int32)), (.int (65533 : Int32)), (.int (65535 : Int32)), (.int (65536 : Int32)), (.int (1114111 : Int32)), (.int (-2147483648 : Int32))] : List Value).getD i (.int (0 : Int32)) = .int (own_bases.getD i 0) := by
  match i with
  | 0 => rfl
  | 1 => rfl
  | 2 => rfl
  | 3 => rfl
  | 4 => rfl
  | 5 => rfl
  | 6 => rfl
  | 7 => rfl
  | 8 => rfl
  | 9 => rfl
  | 10 => rfl
  | 11 => rfl
  | _ + 12 => rfl
theorem own_at_eq (j : Int32) : ([(.int (0 : Int32)), (.int (9 : Int32)), (.int (10 : Int32)), (.int (13 : Int32)), (.int (32 : Int32)), (.int (55295 : Int32)), (.int (57344 : Int32)), (.int (65533 : Int32)), (.int (65535 : Int32)), (.int (65536 : Int32)), (.int (1114111 : Int32)), (.int (-2147483648 : Int32))] : List Value).getD j.toNatClampNeg (.int (0 : Int32)) = .int (own_at j) := own_getD _
theorem own_at_in (p1 p2 : Int32) : ¬ ((p2 &&& (2147483647 : Int32)) - ((p2 &&& (2147483647 : Int32)) / (12 : Int32)) * (12 : Int32)) < 0 ∧ ((p2 &&& (2147483647 : Int32)) - ((p2 &&& (2147483647 : Int32)) / (12 : Int32)) * (12 : Int32)) < 12 := by
  have e1 : (p2 &&& (2147483647 : Int32)).toInt = p2.toInt % 2 ^ 31 := Jvm.Kit.i32_mask p2 _ (k := 31) (by decide) (by decide)
  generalize (p2 &&& (2147483647 : Int32)) = x at *
  have hx0 : 0 ≤ x.toInt ∧ x.toInt < 2 ^ 31 := by omega
  have t12 : (12 : Int32).toInt = 12 := by decide
  have e2 : (x / (12 : Int32)).toInt = x.toInt / 12 := by rw [Jvm.Kit.i32_div (by omega), t12, Int.tdiv_eq_ediv_of_nonneg hx0.1]
  have e3 : ((x / (12 : Int32)) * (12 : Int32)).toInt = (x.toInt / 12) * 12 := by rw [Jvm.Kit.i32_mul (by rw [e2, t12]; omega) (by rw [e2, t12]; omega), e2, t12]
  have e4 : (x - (x / (12 : Int32)) * (12 : Int32)).toInt = x.toInt - (x.toInt / 12) * 12 := by rw [Jvm.Kit.i32_sub (by rw [e3]; omega) (by rw [e3]; omega), e3]
  rw [Int32.lt_iff_toInt_lt, Int32.lt_iff_toInt_lt, e4, t12, Int32.toInt_zero]
  omega
theorem d1_0 : decode prog_251_method_2_code 0 = .ok (.iload_n 0, 1) := by decide +kernel
theorem d1_1 : decode prog_251_method_2_code 1 = .ok (.bipush 32, 2) := by decide +kernel
theorem d1_3 : decode prog_251_method_2_code 3 = .ok (.if_icmp .ge 27, 3) := by decide +kernel
theorem d1_6 : decode prog_251_method_2_code 6 = .ok (.iload_n 0, 1) := by decide +kernel
theorem d1_7 : decode prog_251_method_2_code 7 = .ok (.bipush 9, 2) := by decide +kernel
theorem d1_9 : decode prog_251_method_2_code 9 = .ok (.if_icmp .eq 15, 3) := by decide +kernel
theorem d1_12 : decode prog_251_method_2_code 12 = .ok (.iload_n 0, 1) := by decide +kernel
theorem d1_13 : decode prog_251_method_2_code 13 = .ok (.bipush 10, 2) := by decide +kernel
theorem d1_15 : decode prog_251_method_2_code 15 = .ok (.if_icmp .eq 9, 3) := by decide +kernel
theorem d1_18 : decode prog_251_method_2_code 18 = .ok (.iload_n 0, 1) := by decide +kernel
theorem d1_19 : decode prog_251_method_2_code 19 = .ok (.bipush 13, 2) := by decide +kernel
theorem d1_21 : decode prog_251_method_2_code 21 = .ok (.if_icmp .ne 7, 3) := by decide +kernel
theorem d1_24 : decode prog_251_method_2_code 24 = .ok (.iconst 1, 1) := by decide +kernel
theorem d1_25 : decode prog_251_method_2_code 25 = .ok (.goto 4, 3) := by decide +kernel
theorem d1_28 : decode prog_251_method_2_code 28 = .ok (.iconst 0, 1) := by decide +kernel
theorem d1_29 : decode prog_251_method_2_code 29 = .ok (.ireturn, 1) := by decide +kernel
theorem d1_30 : decode prog_251_method_2_code 30 = .ok (.iload_n 0, 1) := by decide +kernel
theorem d1_31 : decode prog_251_method_2_code 31 = .ok (.ldc 7, 2) := by decide +kernel
theorem d1_33 : decode prog_251_method_2_code 33 = .ok (.if_icmp .le 27, 3) := by decide +kernel
theorem d1_36 : decode prog_251_method_2_code 36 = .ok (.iload_n 0, 1) := by decide +kernel
theorem d1_37 : decode prog_251_method_2_code 37 = .ok (.ldc 8, 2) := by decide +kernel
theorem d1_39 : decode prog_251_method_2_code 39 = .ok (.if_icmp .lt 9, 3) := by decide +kernel
theorem d1_42 : decode prog_251_method_2_code 42 = .ok (.iload_n 0, 1) := by decide +kernel
theorem d1_43 : decode prog_251_method_2_code 43 = .ok (.ldc 9, 2) := by decide +kernel
theorem d1_45 : decode prog_251_method_2_code 45 = .ok (.if_icmp .le 15, 3) := by decide +kernel
theorem d1_48 : decode prog_251_method_2_code 48 = .ok (.iload_n 0, 1) := by decide +kernel
theorem d1_49 : decode prog_251_method_2_code 49 = .ok (.ldc 10, 2) := by decide +kernel
theorem d1_51 : decode prog_251_method_2_code 51 = .ok (.if_icmp .lt 13, 3) := by decide +kernel
theorem d1_54 : decode prog_251_method_2_code 54 = .ok (.iload_n 0, 1) := by decide +kernel
theorem d1_55 : decode prog_251_method_2_code 55 = .ok (.ldc 11, 2) := by decide +kernel
theorem d1_57 : decode prog_251_method_2_code 57 = .ok (.if_icmp .gt 7, 3) := by decide +kernel
theorem d1_60 : decode prog_251_method_2_code 60 = .ok (.iconst 1, 1) := by decide +kernel
theorem d1_61 : decode prog_251_method_2_code 61 = .ok (.goto 4, 3) := by decide +kernel
theorem d1_64 : decode prog_251_method_2_code 64 = .ok (.iconst 0, 1) := by decide +kernel
theorem d1_65 : decode prog_251_method_2_code 65 = .ok (.ireturn, 1) := by decide +kernel
theorem pn_0 : plainName "com/example/paths_into_automata/pathsintoautomata/io/XmlNames" = true := by first | (simp [plainName, overriddenIn]; done) | decide +kernel
theorem ef_1 (m : MethodId) (p1 : Int32) : entryFrame m #[(.int p1)] 1 = mkF m 0 #[.val (.int p1)] [] := by first | (simp [entryFrame, mkF, argsToLocals, Value.category]; done) | rfl
def j1_29_s0 (p1 : Int32) : Int32 := (if p1 = (9 : Int32) then (1 : Int32) else (if p1 = (10 : Int32) then (1 : Int32) else (if p1 = (13 : Int32) then (1 : Int32) else (0 : Int32))))
def j1_65_s0 (p1 : Int32) : Int32 := (if (55295 : Int32) < p1 then (if p1 < (57344 : Int32) then (if p1 < (65536 : Int32) then (0 : Int32) else (if (1114111 : Int32) < p1 then (0 : Int32) else (1 : Int32))) else (if (65533 : Int32) < p1 then (if p1 < (65536 : Int32) then (0 : Int32) else (if (1114111 : Int32) < p1 then (0 : Int32) else (1 : Int32))) else (1 : Int32))) else (1 : Int32))
def v1 (p1 : Int32) : Int32 := (if p1 < (32 : Int32) then (j1_29_s0 p1) else (j1_65_s0 p1))
def Q1 (Z : State) (p1 : Int32) (h0 : Heap) (n0 : Nat) (v : Option Value) (h : Heap) (L : List Loc) : Prop := v = some (.int (v1 p1)) ∧ Fr n0 L ∧ h = h0
set_option maxRecDepth 65536 in
set_option maxHeartbeats 40000000 in
theorem rm1 (l : Launch) (Z : State) (a0 : Array Value) (hw : ∀ d ∈ tables_1, d.before a0 Z = true) (ws : List Jvm.Cond) (p1 : Int32) (h0 : Heap) (n0 : Nat) (Z0 : n0 ≤ h0.size) :
    MetFree l (⟨"com/example/paths_into_automata/pathsintoautomata/io/XmlNames", "isChar", "(I)Z"⟩ : MethodName) (head1 (Jvm.Cond.code (⟨"com/example/paths_into_automata/pathsintoautomata/io/XmlNames", "isChar", "(I)Z"⟩ : MethodName) prog_251_method_2_code 1 (some .boolean) :: ws) ({ frames := 0, cells := 0, slots := 0, locals := 0 } : Room)) (fun a U => a = #[(.int p1)] ∧ Z.Warmed39 U.vm ∧ U.heap = h0) (fun _ _ _ _ _ => True) (fun _ U o U' => ∃ v L, o = .returned v ∧ Q1 Z p1 h0 n0 v U'.heap L ∧ FrameEnd U o U' L ({ frames := 0, cells := 0, slots := 0, locals := 0 } : Room).cells ({ frames := 0, cells := 0, slots := 0, locals := 0 } : Room).slots) := by
  refine MetFree.of_bodySF (plainFor_of_name pn_0) hisR ?_
  intro p e s m args below meth c s₁ Bd hml0 hP hK
  obtain ⟨rfl, hZ, hh⟩ := hP
  have hx := Bd.exec
  have hby := Bd.bytes
  have hml : c.maxLocals = 1 := hml0
  have hown : s.vm.findClass "com/example/paths_into_automata/pathsintoautomata/io/XmlNames" = some m.cls := findClass_of_methodNamed Bd.named
  have hnm := (name_of_methodNamed Bd.named Bd.method).1
  have X0 : Stand p l e ({ frames := 0, cells := 0, slots := 0, locals := 0 } : Room) s m #[(.int p1)] below meth c s₁ [] 0 0 := Stand.of_body Bd
  have e0 : s₁.heap = h0 := by rw [← hh, Bd.state]; rfl
  have N0 := Fr.nil n0
  have pre0 : ∀ t, Steps p.tables e below (s₁.setTop (mkF m 0 #[.val (.int p1)] [])) t → Steps p.tables e below (s₁.setTop (entryFrame m #[(.int p1)] 1)) t := fun t k => castTop (ef_1 m p1) k
  by_cases hc3_1 : p1 < (32 : Int32)
  · have sg6_5 : ∀ t, Steps p.tables e below (s₁.setTop (mkF m 29 #[.val (.int p1)] [(.int (j1_29_s0 p1))])) t → Steps p.tables e below (s₁.setTop (mkF m 6 #[.val (.int p1)] [])) t := by
      intro t kt
      show Steps p.tables e below (s₁.setTop (mkF m 6 #[.val (.int p1)] [])) _
      refine XS.iloadN X0.here hx rfl (hb hby d1_6) rfl ?_
      show Steps p.tables e below (s₁.setTop (mkF m 7 #[.val (.int p1)] [(.int p1)])) _
      refine XS.bipush X0.here hx rfl (hb hby d1_7) ?_
      show Steps p.tables e below (s₁.setTop (mkF m 9 #[.val (.int p1)] [(.int (9 : Int32)), (.int p1)])) _
      by_cases hc9_2 : p1 = (9 : Int32)
      · refine XS.icmpYes X0.here hx rfl (pc0 := 9) (pc' := 24) rfl (hb hby d1_9) rfl (teq hc9_2).1 (by decide) (by decide) ?_
        show Steps p.tables e below (s₁.setTop (mkF m 24 #[.val (.int p1)] [])) _
        refine XS.iconst X0.here hx rfl (hb hby d1_24) ?_
        show Steps p.tables e below (s₁.setTop (mkF m 25 #[.val (.int p1)] [(.int (1 : Int32))])) _
        refine XS.goto X0.here hx rfl (pc0 := 25) (pc' := 29) rfl (hb hby d1_25) (by decide) (by decide) ?_
        rw [show (j1_29_s0 p1) = (1 : Int32) from (if_pos hc9_2)] at kt
        exact kt
      · refine XS.icmpNo X0.here hx rfl (hb hby d1_9) rfl (feq hc9_2).1 ?_
        show Steps p.tables e below (s₁.setTop (mkF m 12 #[.val (.int p1)] [])) _
        refine XS.iloadN X0.here hx rfl (hb hby d1_12) rfl ?_
        show Steps p.tables e below (s₁.setTop (mkF m 13 #[.val (.int p1)] [(.int p1)])) _
        refine XS.bipush X0.here hx rfl (hb hby d1_13) ?_
        show Steps p.tables e below (s₁.setTop (mkF m 15 #[.val (.int p1)] [(.int (10 : Int32)), (.int p1)])) _
        by_cases hc15_3 : p1 = (10 : Int32)
        · refine XS.icmpYes X0.here hx rfl (pc0 := 15) (pc' := 24) rfl (hb hby d1_15) rfl (teq hc15_3).1 (by decide) (by decide) ?_
          show Steps p.tables e below (s₁.setTop (mkF m 24 #[.val (.int p1)] [])) _
          refine XS.iconst X0.here hx rfl (hb hby d1_24) ?_
          show Steps p.tables e below (s₁.setTop (mkF m 25 #[.val (.int p1)] [(.int (1 : Int32))])) _
          refine XS.goto X0.here hx rfl (pc0 := 25) (pc' := 29) rfl (hb hby d1_25) (by decide) (by decide) ?_
          rw [show (j1_29_s0 p1) = (1 : Int32) from ((if_neg hc9_2).trans (if_pos hc15_3))] at kt
          exact kt
        · refine XS.icmpNo X0.here hx rfl (hb hby d1_15) rfl (feq hc15_3).1 ?_
          show Steps p.tables e below (s₁.setTop (mkF m 18 #[.val (.int p1)] [])) _
          refine XS.iloadN X0.here hx rfl (hb hby d1_18) rfl ?_
          show Steps p.tables e below (s₁.setTop (mkF m 19 #[.val (.int p1)] [(.int p1)])) _
          refine XS.bipush X0.here hx rfl (hb hby d1_19) ?_
          show Steps p.tables e below (s₁.setTop (mkF m 21 #[.val (.int p1)] [(.int (13 : Int32)), (.int p1)])) _
          by_cases hc21_4 : p1 = (13 : Int32)
          · refine XS.icmpNo X0.here hx rfl (hb hby d1_21) rfl (teq hc21_4).2 ?_
            show Steps p.tables e below (s₁.setTop (mkF m 24 #[.val (.int p1)] [])) _
            refine XS.iconst X0.here hx rfl (hb hby d1_24) ?_
            show Steps p.tables e below (s₁.setTop (mkF m 25 #[.val (.int p1)] [(.int (1 : Int32))])) _
            refine XS.goto X0.here hx rfl (pc0 := 25) (pc' := 29) rfl (hb hby d1_25) (by decide) (by decide) ?_
            rw [show (j1_29_s0 p1) = (1 : Int32) from ((if_neg hc9_2).trans ((if_neg hc15_3).trans (if_pos hc21_4)))] at kt
            exact kt
          · refine XS.icmpYes X0.here hx rfl (pc0 := 21) (pc' := 28) rfl (hb hby d1_21) rfl (feq hc21_4).2 (by decide) (by decide) ?_
            show Steps p.tables e below (s₁.setTop (mkF m 28 #[.val (.int p1)] [])) _
            refine XS.iconst X0.here hx rfl (hb hby d1_28) ?_
            rw [show (j1_29_s0 p1) = (0 : Int32) from ((if_neg hc9_2).trans ((if_neg hc15_3).trans (if_neg hc21_4)))] at kt
            exact kt
    have hnar : nar .boolean (j1_29_s0 p1) = (j1_29_s0 p1) := by
      unfold j1_29_s0
      repeat' split
      all_goals rfl
    obtain ⟨fs, hr, hrun, hended, hW, hsame⟩ := X0.leave (v := some (.int (j1_29_s0 p1))) (fun h => by rw [Bd.returns] at h; cases h)
    refine ⟨_, _, pre0 _ ?_, hrun, hended, _, _, rfl, ?_, ⟨_, rfl⟩, hW, hsame.mono (by decide) (by decide)⟩
    · show Steps p.tables e below (s₁.setTop (mkF m 0 #[.val (.int p1)] [])) _
      refine XS.iloadN X0.here hx rfl (hb hby d1_0) rfl ?_
      show Steps p.tables e below (s₁.setTop (mkF m 1 #[.val (.int p1)] [(.int p1)])) _
      refine XS.bipush X0.here hx rfl (hb hby d1_1) ?_
      show Steps p.tables e below (s₁.setTop (mkF m 3 #[.val (.int p1)] [(.int (32 : Int32)), (.int p1)])) _
      refine XS.icmpNo X0.here hx rfl (hb hby d1_3) rfl (tlt hc3_1).2.1 ?_
      show Steps p.tables e below (s₁.setTop (mkF m 6 #[.val (.int p1)] [])) _
      refine sg6_5 _ ?_
      show Steps p.tables e below (s₁.setTop (mkF m 29 #[.val (.int p1)] [(.int (j1_29_s0 p1))])) _
      exact retN X0 hx (t := .boolean) Bd.returns (by simp) (hb hby d1_29) (by rw [hnar]; exact hr)
    · show Q1 Z p1 h0 n0 _ s₁.heap _
      rw [e0]
      exact ⟨congrArg (fun z => some (Value.int z)) (show v1 p1 = (j1_29_s0 p1) from (if_pos hc3_1)).symm, N0, rfl⟩
  · have sg30_13 : ∀ t, Steps p.tables e below (s₁.setTop (mkF m 65 #[.val (.int p1)] [(.int (j1_65_s0 p1))])) t → Steps p.tables e below (s₁.setTop (mkF m 30 #[.val (.int p1)] [])) t := by
      intro t kt
      show Steps p.tables e below (s₁.setTop (mkF m 30 #[.val (.int p1)] [])) _
      refine XS.iloadN X0.here hx rfl (hb hby d1_30) rfl ?_
      show Steps p.tables e below (s₁.setTop (mkF m 31 #[.val (.int p1)] [(.int p1)])) _
      refine X0.ldcInt hx hown (mvT hZ (hw _ (List.mem_of_getElem? (i := 17) rfl))) (g := (mkF m 31 #[.val (.int p1)] [(.int p1)])) rfl (hb hby d1_31) _ ?_
      show Steps p.tables e below (s₁.setTop (mkF m 33 #[.val (.int p1)] [(.int (55295 : Int32)), (.int p1)])) _
      by_cases hc33_6 : (55295 : Int32) < p1
      · refine XS.icmpNo X0.here hx rfl (hb hby d1_33) rfl (tlt hc33_6).2.2.2 ?_
        show Steps p.tables e below (s₁.setTop (mkF m 36 #[.val (.int p1)] [])) _
        refine XS.iloadN X0.here hx rfl (hb hby d1_36) rfl ?_
        show Steps p.tables e below (s₁.setTop (mkF m 37 #[.val (.int p1)] [(.int p1)])) _
        refine X0.ldcInt hx hown (mvT hZ (hw _ (List.mem_of_getElem? (i := 20) rfl))) (g := (mkF m 37 #[.val (.int p1)] [(.int p1)])) rfl (hb hby d1_37) _ ?_
        show Steps p.tables e below (s₁.setTop (mkF m 39 #[.val (.int p1)] [(.int (57344 : Int32)), (.int p1)])) _
        by_cases hc39_7 : p1 < (57344 : Int32)
        · refine XS.icmpYes X0.here hx rfl (pc0 := 39) (pc' := 48) rfl (hb hby d1_39) rfl (tlt hc39_7).1 (by decide) (by decide) ?_
          show Steps p.tables e below (s₁.setTop (mkF m 48 #[.val (.int p1)] [])) _
          refine XS.iloadN X0.here hx rfl (hb hby d1_48) rfl ?_
          show Steps p.tables e below (s₁.setTop (mkF m 49 #[.val (.int p1)] [(.int p1)])) _
          refine X0.ldcInt hx hown (mvT hZ (hw _ (List.mem_of_getElem? (i := 22) rfl))) (g := (mkF m 49 #[.val (.int p1)] [(.int p1)])) rfl (hb hby d1_49) _ ?_
          show Steps p.tables e below (s₁.setTop (mkF m 51 #[.val (.int p1)] [(.int (65536 : Int32)), (.int p1)])) _
          by_cases hc51_8 : p1 < (65536 : Int32)
          · refine XS.icmpYes X0.here hx rfl (pc0 := 51) (pc' := 64) rfl (hb hby d1_51) rfl (tlt hc51_8).1 (by decide) (by decide) ?_
            show Steps p.tables e below (s₁.setTop (mkF m 64 #[.val (.int p1)] [])) _
            refine XS.iconst X0.here hx rfl (hb hby d1_64) ?_
            rw [show (j1_65_s0 p1) = (0 : Int32) from ((if_pos hc33_6).trans ((if_pos hc39_7).trans (if_pos hc51_8)))] at kt
            exact kt
          · refine XS.icmpNo X0.here hx rfl (hb hby d1_51) rfl (flt hc51_8).1 ?_
            show Steps p.tables e below (s₁.setTop (mkF m 54 #[.val (.int p1)] [])) _
            refine XS.iloadN X0.here hx rfl (hb hby d1_54) rfl ?_
            show Steps p.tables e below (s₁.setTop (mkF m 55 #[.val (.int p1)] [(.int p1)])) _
            refine X0.ldcInt hx hown (mvT hZ (hw _ (List.mem_of_getElem? (i := 23) rfl))) (g := (mkF m 55 #[.val (.int p1)] [(.int p1)])) rfl (hb hby d1_55) _ ?_
            show Steps p.tables e below (s₁.setTop (mkF m 57 #[.val (.int p1)] [(.int (1114111 : Int32)), (.int p1)])) _
            by_cases hc57_9 : (1114111 : Int32) < p1
            · refine XS.icmpYes X0.here hx rfl (pc0 := 57) (pc' := 64) rfl (hb hby d1_57) rfl (tlt hc57_9).2.2.1 (by decide) (by decide) ?_
              show Steps p.tables e below (s₁.setTop (mkF m 64 #[.val (.int p1)] [])) _
              refine XS.iconst X0.here hx rfl (hb hby d1_64) ?_
              rw [show (j1_65_s0 p1) = (0 : Int32) from ((if_pos hc33_6).trans ((if_pos hc39_7).trans ((if_neg hc51_8).trans (if_pos hc57_9))))] at kt
              exact kt
            · refine XS.icmpNo X0.here hx rfl (hb hby d1_57) rfl (flt hc57_9).2.2.1 ?_
              show Steps p.tables e below (s₁.setTop (mkF m 60 #[.val (.int p1)] [])) _
              refine XS.iconst X0.here hx rfl (hb hby d1_60) ?_
              show Steps p.tables e below (s₁.setTop (mkF m 61 #[.val (.int p1)] [(.int (1 : Int32))])) _
              refine XS.goto X0.here hx rfl (pc0 := 61) (pc' := 65) rfl (hb hby d1_61) (by decide) (by decide) ?_
              rw [show (j1_65_s0 p1) = (1 : Int32) from ((if_pos hc33_6).trans ((if_pos hc39_7).trans ((if_neg hc51_8).trans (if_neg hc57_9))))] at kt
              exact kt
        · refine XS.icmpNo X0.here hx rfl (hb hby d1_39) rfl (flt hc39_7).1 ?_
          show Steps p.tables e below (s₁.setTop (mkF m 42 #[.val (.int p1)] [])) _
          refine XS.iloadN X0.here hx rfl (hb hby d1_42) rfl ?_
          show Steps p.tables e below (s₁.setTop (mkF m 43 #[.val (.int p1)] [(.int p1)])) _
          refine X0.ldcInt hx hown (mvT hZ (hw _ (List.mem_of_getElem? (i := 21) rfl))) (g := (mkF m 43 #[.val (.int p1)] [(.int p1)])) rfl (hb hby d1_43) _ ?_
          show Steps p.tables e below (s₁.setTop (mkF m 45 #[.val (.int p1)] [(.int (65533 : Int32)), (.int p1)])) _
          by_cases hc45_10 : (65533 : Int32) < p1
          · refine XS.icmpNo X0.here hx rfl (hb hby d1_45) rfl (tlt hc45_10).2.2.2 ?_
            show Steps p.tables e below (s₁.setTop (mkF m 48 #[.val (.int p1)] [])) _
            refine XS.iloadN X0.here hx rfl (hb hby d1_48) rfl ?_
            show Steps p.tables e below (s₁.setTop (mkF m 49 #[.val (.int p1)] [(.int p1)])) _
            refine X0.ldcInt hx hown (mvT hZ (hw _ (List.mem_of_getElem? (i := 22) rfl))) (g := (mkF m 49 #[.val (.int p1)] [(.int p1)])) rfl (hb hby d1_49) _ ?_
            show Steps p.tables e below (s₁.setTop (mkF m 51 #[.val (.int p1)] [(.int (65536 : Int32)), (.int p1)])) _
            by_cases hc51_11 : p1 < (65536 : Int32)
            · refine XS.icmpYes X0.here hx rfl (pc0 := 51) (pc' := 64) rfl (hb hby d1_51) rfl (tlt hc51_11).1 (by decide) (by decide) ?_
              show Steps p.tables e below (s₁.setTop (mkF m 64 #[.val (.int p1)] [])) _
              refine XS.iconst X0.here hx rfl (hb hby d1_64) ?_
              rw [show (j1_65_s0 p1) = (0 : Int32) from ((if_pos hc33_6).trans ((if_neg hc39_7).trans ((if_pos hc45_10).trans (if_pos hc51_11))))] at kt
              exact kt
            · refine XS.icmpNo X0.here hx rfl (hb hby d1_51) rfl (flt hc51_11).1 ?_
              show Steps p.tables e below (s₁.setTop (mkF m 54 #[.val (.int p1)] [])) _
              refine XS.iloadN X0.here hx rfl (hb hby d1_54) rfl ?_
              show Steps p.tables e below (s₁.setTop (mkF m 55 #[.val (.int p1)] [(.int p1)])) _
              refine X0.ldcInt hx hown (mvT hZ (hw _ (List.mem_of_getElem? (i := 23) rfl))) (g := (mkF m 55 #[.val (.int p1)] [(.int p1)])) rfl (hb hby d1_55) _ ?_
              show Steps p.tables e below (s₁.setTop (mkF m 57 #[.val (.int p1)] [(.int (1114111 : Int32)), (.int p1)])) _
              by_cases hc57_12 : (1114111 : Int32) < p1
              · refine XS.icmpYes X0.here hx rfl (pc0 := 57) (pc' := 64) rfl (hb hby d1_57) rfl (tlt hc57_12).2.2.1 (by decide) (by decide) ?_
                show Steps p.tables e below (s₁.setTop (mkF m 64 #[.val (.int p1)] [])) _
                refine XS.iconst X0.here hx rfl (hb hby d1_64) ?_
                rw [show (j1_65_s0 p1) = (0 : Int32) from ((if_pos hc33_6).trans ((if_neg hc39_7).trans ((if_pos hc45_10).trans ((if_neg hc51_11).trans (if_pos hc57_12)))))] at kt
                exact kt
              · refine XS.icmpNo X0.here hx rfl (hb hby d1_57) rfl (flt hc57_12).2.2.1 ?_
                show Steps p.tables e below (s₁.setTop (mkF m 60 #[.val (.int p1)] [])) _
                refine XS.iconst X0.here hx rfl (hb hby d1_60) ?_
                show Steps p.tables e below (s₁.setTop (mkF m 61 #[.val (.int p1)] [(.int (1 : Int32))])) _
                refine XS.goto X0.here hx rfl (pc0 := 61) (pc' := 65) rfl (hb hby d1_61) (by decide) (by decide) ?_
                rw [show (j1_65_s0 p1) = (1 : Int32) from ((if_pos hc33_6).trans ((if_neg hc39_7).trans ((if_pos hc45_10).trans ((if_neg hc51_11).trans (if_neg hc57_12)))))] at kt
                exact kt
          · refine XS.icmpYes X0.here hx rfl (pc0 := 45) (pc' := 60) rfl (hb hby d1_45) rfl (flt hc45_10).2.2.2 (by decide) (by decide) ?_
            show Steps p.tables e below (s₁.setTop (mkF m 60 #[.val (.int p1)] [])) _
            refine XS.iconst X0.here hx rfl (hb hby d1_60) ?_
            show Steps p.tables e below (s₁.setTop (mkF m 61 #[.val (.int p1)] [(.int (1 : Int32))])) _
            refine XS.goto X0.here hx rfl (pc0 := 61) (pc' := 65) rfl (hb hby d1_61) (by decide) (by decide) ?_
            rw [show (j1_65_s0 p1) = (1 : Int32) from ((if_pos hc33_6).trans ((if_neg hc39_7).trans (if_neg hc45_10)))] at kt
            exact kt
      · refine XS.icmpYes X0.here hx rfl (pc0 := 33) (pc' := 60) rfl (hb hby d1_33) rfl (flt hc33_6).2.2.2 (by decide) (by decide) ?_
        show Steps p.tables e below (s₁.setTop (mkF m 60 #[.val (.int p1)] [])) _
        refine XS.iconst X0.here hx rfl (hb hby d1_60) ?_
        show Steps p.tables e below (s₁.setTop (mkF m 61 #[.val (.int p1)] [(.int (1 : Int32))])) _
        refine XS.goto X0.here hx rfl (pc0 := 61) (pc' := 65) rfl (hb hby d1_61) (by decide) (by decide) ?_
        rw [show (j1_65_s0 p1) = (1 : Int32) from (if_neg hc33_6)] at kt
        exact kt
    have hnar : nar .boolean (j1_65_s0 p1) = (j1_65_s0 p1) := by
      unfold j1_65_s0
      repeat' split
      all_goals rfl
    obtain ⟨fs, hr, hrun, hended, hW, hsame⟩ := X0.leave (v := some (.int (j1_65_s0 p1))) (fun h => by rw [Bd.returns] at h; cases h)
    refine ⟨_, _, pre0 _ ?_, hrun, hended, _, _, rfl, ?_, ⟨_, rfl⟩, hW, hsame.mono (by decide) (by decide)⟩
    · show Steps p.tables e below (s₁.setTop (mkF m 0 #[.val (.int p1)] [])) _
      refine XS.iloadN X0.here hx rfl (hb hby d1_0) rfl ?_
      show Steps p.tables e below (s₁.setTop (mkF m 1 #[.val (.int p1)] [(.int p1)])) _
      refine XS.bipush X0.here hx rfl (hb hby d1_1) ?_
      show Steps p.tables e below (s₁.setTop (mkF m 3 #[.val (.int p1)] [(.int (32 : Int32)), (.int p1)])) _
      refine XS.icmpYes X0.here hx rfl (pc0 := 3) (pc' := 30) rfl (hb hby d1_3) rfl (flt hc3_1).2.1 (by decide) (by decide) ?_
      show Steps p.tables e below (s₁.setTop (mkF m 30 #[.val (.int p1)] [])) _
      refine sg30_13 _ ?_
      show Steps p.tables e below (s₁.setTop (mkF m 65 #[.val (.int p1)] [(.int (j1_65_s0 p1))])) _
      exact retN X0 hx (t := .boolean) Bd.returns (by simp) (hb hby d1_65) (by rw [hnar]; exact hr)
    · show Q1 Z p1 h0 n0 _ s₁.heap _
      rw [e0]
      exact ⟨congrArg (fun z => some (Value.int z)) (show v1 p1 = (j1_65_s0 p1) from (if_neg hc3_1)).symm, N0, rfl⟩
theorem d2_0 : decode method_2_code 0 = .ok (.iload_n 0, 1) := by decide +kernel
theorem d2_1 : decode method_2_code 1 = .ok (.ifCond .lt 57, 3) := by decide +kernel
theorem d2_4 : decode method_2_code 4 = .ok (.iload_n 0, 1) := by decide +kernel
theorem d2_5 : decode method_2_code 5 = .ok (.ldc 7, 2) := by decide +kernel
theorem d2_7 : decode method_2_code 7 = .ok (.if_icmp .gt 51, 3) := by decide +kernel
theorem d2_10 : decode method_2_code 10 = .ok (.iload_n 0, 1) := by decide +kernel
theorem d2_11 : decode method_2_code 11 = .ok (.bipush 32, 2) := by decide +kernel
theorem d2_13 : decode method_2_code 13 = .ok (.if_icmp .ge 21, 3) := by decide +kernel
theorem d2_16 : decode method_2_code 16 = .ok (.iload_n 0, 1) := by decide +kernel
theorem d2_17 : decode method_2_code 17 = .ok (.bipush 9, 2) := by decide +kernel
theorem d2_19 : decode method_2_code 19 = .ok (.if_icmp .eq 15, 3) := by decide +kernel
theorem d2_22 : decode method_2_code 22 = .ok (.iload_n 0, 1) := by decide +kernel
theorem d2_23 : decode method_2_code 23 = .ok (.bipush 10, 2) := by decide +kernel
theorem d2_25 : decode method_2_code 25 = .ok (.if_icmp .eq 9, 3) := by decide +kernel
theorem d2_28 : decode method_2_code 28 = .ok (.iload_n 0, 1) := by decide +kernel
theorem d2_29 : decode method_2_code 29 = .ok (.bipush 13, 2) := by decide +kernel
theorem d2_31 : decode method_2_code 31 = .ok (.if_icmp .ne 27, 3) := by decide +kernel
theorem d2_34 : decode method_2_code 34 = .ok (.iload_n 0, 1) := by decide +kernel
theorem d2_35 : decode method_2_code 35 = .ok (.ldc 8, 2) := by decide +kernel
theorem d2_37 : decode method_2_code 37 = .ok (.if_icmp .lt 9, 3) := by decide +kernel
theorem d2_40 : decode method_2_code 40 = .ok (.iload_n 0, 1) := by decide +kernel
theorem d2_41 : decode method_2_code 41 = .ok (.ldc 9, 2) := by decide +kernel
theorem d2_43 : decode method_2_code 43 = .ok (.if_icmp .le 15, 3) := by decide +kernel
theorem d2_46 : decode method_2_code 46 = .ok (.iload_n 0, 1) := by decide +kernel
theorem d2_47 : decode method_2_code 47 = .ok (.ldc 10, 2) := by decide +kernel
theorem d2_49 : decode method_2_code 49 = .ok (.if_icmp .eq 9, 3) := by decide +kernel
theorem d2_52 : decode method_2_code 52 = .ok (.iload_n 0, 1) := by decide +kernel
theorem d2_53 : decode method_2_code 53 = .ok (.ldc 11, 2) := by decide +kernel
theorem d2_55 : decode method_2_code 55 = .ok (.if_icmp .ne 7, 3) := by decide +kernel
theorem d2_58 : decode method_2_code 58 = .ok (.iconst 1, 1) := by decide +kernel
theorem d2_59 : decode method_2_code 59 = .ok (.goto 4, 3) := by decide +kernel
theorem d2_62 : decode method_2_code 62 = .ok (.iconst 0, 1) := by decide +kernel
theorem d2_63 : decode method_2_code 63 = .ok (.istore_n 1, 1) := by decide +kernel
theorem d2_64 : decode method_2_code 64 = .ok (.iload_n 1, 1) := by decide +kernel
theorem d2_65 : decode method_2_code 65 = .ok (.ifCond .ne 7, 3) := by decide +kernel
theorem d2_68 : decode method_2_code 68 = .ok (.iconst 1, 1) := by decide +kernel
theorem d2_69 : decode method_2_code 69 = .ok (.goto 4, 3) := by decide +kernel
theorem d2_72 : decode method_2_code 72 = .ok (.iconst 0, 1) := by decide +kernel
theorem d2_73 : decode method_2_code 73 = .ok (.ireturn, 1) := by decide +kernel
theorem pn_1 : plainName "com/example/paths_into_automata/pathsintoautomata/io/XmlNamesIsCharPinLaw" = true := by first | (simp [plainName, overriddenIn]; done) | decide +kernel
theorem ef_2 (m : MethodId) (p1 : Int32) : entryFrame m #[(.int p1)] 2 = mkF m 0 #[.val (.int p1), .unset] [] := by first | (simp [entryFrame, mkF, argsToLocals, Value.category]; done) | rfl
def j2_63_s0 (p1 : Int32) : Int32 := (if p1 < (0 : Int32) then (1 : Int32) else (if (1114111 : Int32) < p1 then (1 : Int32) else (if p1 < (32 : Int32) then (if p1 = (9 : Int32) then (if p1 < (55296 : Int32) then (if p1 = (65534 : Int32) then (1 : Int32) else (if p1 = (65535 : Int32) then (1 : Int32) else (0 : Int32))) else (if (57343 : Int32) < p1 then (if p1 = (65534 : Int32) then (1 : Int32) else (if p1 = (65535 : Int32) then (1 : Int32) else (0 : Int32))) else (1 : Int32))) else (if p1 = (10 : Int32) then (if p1 < (55296 : Int32) then (if p1 = (65534 : Int32) then (1 : Int32) else (if p1 = (65535 : Int32) then (1 : Int32) else (0 : Int32))) else (if (57343 : Int32) < p1 then (if p1 = (65534 : Int32) then (1 : Int32) else (if p1 = (65535 : Int32) then (1 : Int32) else (0 : Int32))) else (1 : Int32))) else (if p1 = (13 : Int32) then (if p1 < (55296 : Int32) then (if p1 = (65534 : Int32) then (1 : Int32) else (if p1 = (65535 : Int32) then (1 : Int32) else (0 : Int32))) else (if (57343 : Int32) < p1 then (if p1 = (65534 : Int32) then (1 : Int32) else (if p1 = (65535 : Int32) then (1 : Int32) else (0 : Int32))) else (1 : Int32))) else (1 : Int32)))) else (if p1 < (55296 : Int32) then (if p1 = (65534 : Int32) then (1 : Int32) else (if p1 = (65535 : Int32) then (1 : Int32) else (0 : Int32))) else (if (57343 : Int32) < p1 then (if p1 = (65534 : Int32) then (1 : Int32) else (if p1 = (65535 : Int32) then (1 : Int32) else (0 : Int32))) else (1 : Int32))))))
def j2_73_s0 (p1 : Int32) : Int32 := (if (j2_63_s0 p1) = (0 : Int32) then (1 : Int32) else (0 : Int32))
def v2 (p1 : Int32) : Int32 := (j2_73_s0 p1)
def Q2 (Z : State) (p1 : Int32) (h0 : Heap) (n0 : Nat) (v : Option Value) (h : Heap) (L : List Loc) : Prop := v = some (.int (v2 p1)) ∧ Fr n0 L ∧ h = h0
set_option maxRecDepth 65536 in
set_option maxHeartbeats 40000000 in
theorem rm2 (l : Launch) (Z : State) (a0 : Array Value) (hw : ∀ d ∈ tables_1, d.before a0 Z = true) (ws : List Jvm.Cond) (p1 : Int32) (h0 : Heap) (n0 : Nat) (Z0 : n0 ≤ h0.size) :
    MetFree l (⟨"com/example/paths_into_automata/pathsintoautomata/io/XmlNamesIsCharPinLaw", "expected", "(I)Z"⟩ : MethodName) (head1 (Jvm.Cond.code (⟨"com/example/paths_into_automata/pathsintoautomata/io/XmlNamesIsCharPinLaw", "expected", "(I)Z"⟩ : MethodName) method_2_code 2 (some .boolean) :: ws) ({ frames := 0, cells := 0, slots := 0, locals := 0 } : Room)) (fun a U => a = #[(.int p1)] ∧ Z.Warmed39 U.vm ∧ U.heap = h0) (fun _ _ _ _ _ => True) (fun _ U o U' => ∃ v L, o = .returned v ∧ Q2 Z p1 h0 n0 v U'.heap L ∧ FrameEnd U o U' L ({ frames := 0, cells := 0, slots := 0, locals := 0 } : Room).cells ({ frames := 0, cells := 0, slots := 0, locals := 0 } : Room).slots) := by
  refine MetFree.of_bodySF (plainFor_of_name pn_1) hisR ?_
  intro p e s m args below meth c s₁ Bd hml0 hP hK
  obtain ⟨rfl, hZ, hh⟩ := hP
  have hx := Bd.exec
  have hby := Bd.bytes
  have hml : c.maxLocals = 2 := hml0
  have hown : s.vm.findClass "com/example/paths_into_automata/pathsintoautomata/io/XmlNamesIsCharPinLaw" = some m.cls := findClass_of_methodNamed Bd.named
  have hnm := (name_of_methodNamed Bd.named Bd.method).1
  have X0 : Stand p l e ({ frames := 0, cells := 0, slots := 0, locals := 0 } : Room) s m #[(.int p1)] below meth c s₁ [] 0 0 := Stand.of_body Bd
  have e0 : s₁.heap = h0 := by rw [← hh, Bd.state]; rfl
  have N0 := Fr.nil n0
  have pre0 : ∀ t, Steps p.tables e below (s₁.setTop (mkF m 0 #[.val (.int p1), .unset] [])) t → Steps p.tables e below (s₁.setTop (entryFrame m #[(.int p1)] 2)) t := fun t k => castTop (ef_2 m p1) k
  have sg0_31 : ∀ t, Steps p.tables e below (s₁.setTop (mkF m 63 #[.val (.int p1), .unset] [(.int (j2_63_s0 p1))])) t → Steps p.tables e below (s₁.setTop (mkF m 0 #[.val (.int p1), .unset] [])) t := by
    intro t kt
    show Steps p.tables e below (s₁.setTop (mkF m 0 #[.val (.int p1), .unset] [])) _
    refine XS.iloadN X0.here hx rfl (hb hby d2_0) rfl ?_
    show Steps p.tables e below (s₁.setTop (mkF m 1 #[.val (.int p1), .unset] [(.int p1)])) _
    by_cases hc1_1 : p1 < (0 : Int32)
    · refine XS.ifYes X0.here hx rfl (pc0 := 1) (pc' := 58) rfl (hb hby d2_1) rfl ((if0 _ _).trans (tlt hc1_1).1) (by decide) (by decide) ?_
      show Steps p.tables e below (s₁.setTop (mkF m 58 #[.val (.int p1), .unset] [])) _
      refine XS.iconst X0.here hx rfl (hb hby d2_58) ?_
      show Steps p.tables e below (s₁.setTop (mkF m 59 #[.val (.int p1), .unset] [(.int (1 : Int32))])) _
      refine XS.goto X0.here hx rfl (pc0 := 59) (pc' := 63) rfl (hb hby d2_59) (by decide) (by decide) ?_
      rw [show (j2_63_s0 p1) = (1 : Int32) from (if_pos hc1_1)] at kt
      exact kt
    · refine XS.ifNo X0.here hx rfl (hb hby d2_1) rfl ((if0 _ _).trans (flt hc1_1).1) ?_
      show Steps p.tables e below (s₁.setTop (mkF m 4 #[.val (.int p1), .unset] [])) _
      refine XS.iloadN X0.here hx rfl (hb hby d2_4) rfl ?_
      show Steps p.tables e below (s₁.setTop (mkF m 5 #[.val (.int p1), .unset] [(.int p1)])) _
      refine X0.ldcInt hx hown (mvT hZ (hw _ (List.mem_of_getElem? (i := 6) rfl))) (g := (mkF m 5 #[.val (.int p1), .unset] [(.int p1)])) rfl (hb hby d2_5) _ ?_
      show Steps p.tables e below (s₁.setTop (mkF m 7 #[.val (.int p1), .unset] [(.int (1114111 : Int32)), (.int p1)])) _
      by_cases hc7_2 : (1114111 : Int32) < p1
      · refine XS.icmpYes X0.here hx rfl (pc0 := 7) (pc' := 58) rfl (hb hby d2_7) rfl (tlt hc7_2).2.2.1 (by decide) (by decide) ?_
        show Steps p.tables e below (s₁.setTop (mkF m 58 #[.val (.int p1), .unset] [])) _
        refine XS.iconst X0.here hx rfl (hb hby d2_58) ?_
        show Steps p.tables e below (s₁.setTop (mkF m 59 #[.val (.int p1), .unset] [(.int (1 : Int32))])) _
        refine XS.goto X0.here hx rfl (pc0 := 59) (pc' := 63) rfl (hb hby d2_59) (by decide) (by decide) ?_
        rw [show (j2_63_s0 p1) = (1 : Int32) from ((if_neg hc1_1).trans (if_pos hc7_2))] at kt
        exact kt
      · refine XS.icmpNo X0.here hx rfl (hb hby d2_7) rfl (flt hc7_2).2.2.1 ?_
        show Steps p.tables e below (s₁.setTop (mkF m 10 #[.val (.int p1), .unset] [])) _
        refine XS.iloadN X0.here hx rfl (hb hby d2_10) rfl ?_
        show Steps p.tables e below (s₁.setTop (mkF m 11 #[.val (.int p1), .unset] [(.int p1)])) _
        refine XS.bipush X0.here hx rfl (hb hby d2_11) ?_
        show Steps p.tables e below (s₁.setTop (mkF m 13 #[.val (.int p1), .unset] [(.int (32 : Int32)), (.int p1)])) _
        by_cases hc13_3 : p1 < (32 : Int32)
        · refine XS.icmpNo X0.here hx rfl (hb hby d2_13) rfl (tlt hc13_3).2.1 ?_
          show Steps p.tables e below (s₁.setTop (mkF m 16 #[.val (.int p1), .unset] [])) _
          refine XS.iloadN X0.here hx rfl (hb hby d2_16) rfl ?_
          show Steps p.tables e below (s₁.setTop (mkF m 17 #[.val (.int p1), .unset] [(.int p1)])) _
          refine XS.bipush X0.here hx rfl (hb hby d2_17) ?_
          show Steps p.tables e below (s₁.setTop (mkF m 19 #[.val (.int p1), .unset] [(.int (9 : Int32)), (.int p1)])) _
          by_cases hc19_4 : p1 = (9 : Int32)
          · refine XS.icmpYes X0.here hx rfl (pc0 := 19) (pc' := 34) rfl (hb hby d2_19) rfl (teq hc19_4).1 (by decide) (by decide) ?_
            show Steps p.tables e below (s₁.setTop (mkF m 34 #[.val (.int p1), .unset] [])) _
            refine XS.iloadN X0.here hx rfl (hb hby d2_34) rfl ?_
            show Steps p.tables e below (s₁.setTop (mkF m 35 #[.val (.int p1), .unset] [(.int p1)])) _
            refine X0.ldcInt hx hown (mvT hZ (hw _ (List.mem_of_getElem? (i := 18) rfl))) (g := (mkF m 35 #[.val (.int p1), .unset] [(.int p1)])) rfl (hb hby d2_35) _ ?_
            show Steps p.tables e below (s₁.setTop (mkF m 37 #[.val (.int p1), .unset] [(.int (55296 : Int32)), (.int p1)])) _
            by_cases hc37_5 : p1 < (55296 : Int32)
            · refine XS.icmpYes X0.here hx rfl (pc0 := 37) (pc' := 46) rfl (hb hby d2_37) rfl (tlt hc37_5).1 (by decide) (by decide) ?_
              show Steps p.tables e below (s₁.setTop (mkF m 46 #[.val (.int p1), .unset] [])) _
              refine XS.iloadN X0.here hx rfl (hb hby d2_46) rfl ?_
              show Steps p.tables e below (s₁.setTop (mkF m 47 #[.val (.int p1), .unset] [(.int p1)])) _
              refine X0.ldcInt hx hown (mvT hZ (hw _ (List.mem_of_getElem? (i := 19) rfl))) (g := (mkF m 47 #[.val (.int p1), .unset] [(.int p1)])) rfl (hb hby d2_47) _ ?_
              show Steps p.tables e below (s₁.setTop (mkF m 49 #[.val (.int p1), .unset] [(.int (65534 : Int32)), (.int p1)])) _
              by_cases hc49_6 : p1 = (65534 : Int32)
              · refine XS.icmpYes X0.here hx rfl (pc0 := 49) (pc' := 58) rfl (hb hby d2_49) rfl (teq hc49_6).1 (by decide) (by decide) ?_
                show Steps p.tables e below (s₁.setTop (mkF m 58 #[.val (.int p1), .unset] [])) _
                refine XS.iconst X0.here hx rfl (hb hby d2_58) ?_
                show Steps p.tables e below (s₁.setTop (mkF m 59 #[.val (.int p1), .unset] [(.int (1 : Int32))])) _
                refine XS.goto X0.here hx rfl (pc0 := 59) (pc' := 63) rfl (hb hby d2_59) (by decide) (by decide) ?_
                rw [show (j2_63_s0 p1) = (1 : Int32) from ((if_neg hc1_1).trans ((if_neg hc7_2).trans ((if_pos hc13_3).trans ((if_pos hc19_4).trans ((if_pos hc37_5).trans (if_pos hc49_6))))))] at kt
                exact kt
              · refine XS.icmpNo X0.here hx rfl (hb hby d2_49) rfl (feq hc49_6).1 ?_
                show Steps p.tables e below (s₁.setTop (mkF m 52 #[.val (.int p1), .unset] [])) _
                refine XS.iloadN X0.here hx rfl (hb hby d2_52) rfl ?_
                show Steps p.tables e below (s₁.setTop (mkF m 53 #[.val (.int p1), .unset] [(.int p1)])) _
                refine X0.ldcInt hx hown (mvT hZ (hw _ (List.mem_of_getElem? (i := 4) rfl))) (g := (mkF m 53 #[.val (.int p1), .unset] [(.int p1)])) rfl (hb hby d2_53) _ ?_
                show Steps p.tables e below (s₁.setTop (mkF m 55 #[.val (.int p1), .unset] [(.int (65535 : Int32)), (.int p1)])) _
                by_cases hc55_7 : p1 = (65535 : Int32)
                · refine XS.icmpNo X0.here hx rfl (hb hby d2_55) rfl (teq hc55_7).2 ?_
                  show Steps p.tables e below (s₁.setTop (mkF m 58 #[.val (.int p1), .unset] [])) _
                  refine XS.iconst X0.here hx rfl (hb hby d2_58) ?_
                  show Steps p.tables e below (s₁.setTop (mkF m 59 #[.val (.int p1), .unset] [(.int (1 : Int32))])) _
                  refine XS.goto X0.here hx rfl (pc0 := 59) (pc' := 63) rfl (hb hby d2_59) (by decide) (by decide) ?_
                  rw [show (j2_63_s0 p1) = (1 : Int32) from ((if_neg hc1_1).trans ((if_neg hc7_2).trans ((if_pos hc13_3).trans ((if_pos hc19_4).trans ((if_pos hc37_5).trans ((if_neg hc49_6).trans (if_pos hc55_7)))))))] at kt
                  exact kt
                · refine XS.icmpYes X0.here hx rfl (pc0 := 55) (pc' := 62) rfl (hb hby d2_55) rfl (feq hc55_7).2 (by decide) (by decide) ?_
                  show Steps p.tables e below (s₁.setTop (mkF m 62 #[.val (.int p1), .unset] [])) _
                  refine XS.iconst X0.here hx rfl (hb hby d2_62) ?_
                  rw [show (j2_63_s0 p1) = (0 : Int32) from ((if_neg hc1_1).trans ((if_neg hc7_2).trans ((if_pos hc13_3).trans ((if_pos hc19_4).trans ((if_pos hc37_5).trans ((if_neg hc49_6).trans (if_neg hc55_7)))))))] at kt
                  exact kt
            · refine XS.icmpNo X0.here hx rfl (hb hby d2_37) rfl (flt hc37_5).1 ?_
              show Steps p.tables e below (s₁.setTop (mkF m 40 #[.val (.int p1), .unset] [])) _
              refine XS.iloadN X0.here hx rfl (hb hby d2_40) rfl ?_
              show Steps p.tables e below (s₁.setTop (mkF m 41 #[.val (.int p1), .unset] [(.int p1)])) _
              refine X0.ldcInt hx hown (mvT hZ (hw _ (List.mem_of_getElem? (i := 24) rfl))) (g := (mkF m 41 #[.val (.int p1), .unset] [(.int p1)])) rfl (hb hby d2_41) _ ?_
              show Steps p.tables e below (s₁.setTop (mkF m 43 #[.val (.int p1), .unset] [(.int (57343 : Int32)), (.int p1)])) _
              by_cases hc43_8 : (57343 : Int32) < p1
              · refine XS.icmpNo X0.here hx rfl (hb hby d2_43) rfl (tlt hc43_8).2.2.2 ?_
                show Steps p.tables e below (s₁.setTop (mkF m 46 #[.val (.int p1), .unset] [])) _
                refine XS.iloadN X0.here hx rfl (hb hby d2_46) rfl ?_
                show Steps p.tables e below (s₁.setTop (mkF m 47 #[.val (.int p1), .unset] [(.int p1)])) _
                refine X0.ldcInt hx hown (mvT hZ (hw _ (List.mem_of_getElem? (i := 19) rfl))) (g := (mkF m 47 #[.val (.int p1), .unset] [(.int p1)])) rfl (hb hby d2_47) _ ?_
                show Steps p.tables e below (s₁.setTop (mkF m 49 #[.val (.int p1), .unset] [(.int (65534 : Int32)), (.int p1)])) _
                by_cases hc49_9 : p1 = (65534 : Int32)
                · refine XS.icmpYes X0.here hx rfl (pc0 := 49) (pc' := 58) rfl (hb hby d2_49) rfl (teq hc49_9).1 (by decide) (by decide) ?_
                  show Steps p.tables e below (s₁.setTop (mkF m 58 #[.val (.int p1), .unset] [])) _
                  refine XS.iconst X0.here hx rfl (hb hby d2_58) ?_
                  show Steps p.tables e below (s₁.setTop (mkF m 59 #[.val (.int p1), .unset] [(.int (1 : Int32))])) _
                  refine XS.goto X0.here hx rfl (pc0 := 59) (pc' := 63) rfl (hb hby d2_59) (by decide) (by decide) ?_
                  rw [show (j2_63_s0 p1) = (1 : Int32) from ((if_neg hc1_1).trans ((if_neg hc7_2).trans ((if_pos hc13_3).trans ((if_pos hc19_4).trans ((if_neg hc37_5).trans ((if_pos hc43_8).trans (if_pos hc49_9)))))))] at kt
                  exact kt
                · refine XS.icmpNo X0.here hx rfl (hb hby d2_49) rfl (feq hc49_9).1 ?_
                  show Steps p.tables e below (s₁.setTop (mkF m 52 #[.val (.int p1), .unset] [])) _
                  refine XS.iloadN X0.here hx rfl (hb hby d2_52) rfl ?_
                  show Steps p.tables e below (s₁.setTop (mkF m 53 #[.val (.int p1), .unset] [(.int p1)])) _
                  refine X0.ldcInt hx hown (mvT hZ (hw _ (List.mem_of_getElem? (i := 4) rfl))) (g := (mkF m 53 #[.val (.int p1), .unset] [(.int p1)])) rfl (hb hby d2_53) _ ?_
                  show Steps p.tables e below (s₁.setTop (mkF m 55 #[.val (.int p1), .unset] [(.int (65535 : Int32)), (.int p1)])) _
                  by_cases hc55_10 : p1 = (65535 : Int32)
                  · refine XS.icmpNo X0.here hx rfl (hb hby d2_55) rfl (teq hc55_10).2 ?_
                    show Steps p.tables e below (s₁.setTop (mkF m 58 #[.val (.int p1), .unset] [])) _
                    refine XS.iconst X0.here hx rfl (hb hby d2_58) ?_
                    show Steps p.tables e below (s₁.setTop (mkF m 59 #[.val (.int p1), .unset] [(.int (1 : Int32))])) _
                    refine XS.goto X0.here hx rfl (pc0 := 59) (pc' := 63) rfl (hb hby d2_59) (by decide) (by decide) ?_
                    rw [show (j2_63_s0 p1) = (1 : Int32) from ((if_neg hc1_1).trans ((if_neg hc7_2).trans ((if_pos hc13_3).trans ((if_pos hc19_4).trans ((if_neg hc37_5).trans ((if_pos hc43_8).trans ((if_neg hc49_9).trans (if_pos hc55_10))))))))] at kt
                    exact kt
                  · refine XS.icmpYes X0.here hx rfl (pc0 := 55) (pc' := 62) rfl (hb hby d2_55) rfl (feq hc55_10).2 (by decide) (by decide) ?_
                    show Steps p.tables e below (s₁.setTop (mkF m 62 #[.val (.int p1), .unset] [])) _
                    refine XS.iconst X0.here hx rfl (hb hby d2_62) ?_
                    rw [show (j2_63_s0 p1) = (0 : Int32) from ((if_neg hc1_1).trans ((if_neg hc7_2).trans ((if_pos hc13_3).trans ((if_pos hc19_4).trans ((if_neg hc37_5).trans ((if_pos hc43_8).trans ((if_neg hc49_9).trans (if_neg hc55_10))))))))] at kt
                    exact kt
              · refine XS.icmpYes X0.here hx rfl (pc0 := 43) (pc' := 58) rfl (hb hby d2_43) rfl (flt hc43_8).2.2.2 (by decide) (by decide) ?_
                show Steps p.tables e below (s₁.setTop (mkF m 58 #[.val (.int p1), .unset] [])) _
                refine XS.iconst X0.here hx rfl (hb hby d2_58) ?_
                show Steps p.tables e below (s₁.setTop (mkF m 59 #[.val (.int p1), .unset] [(.int (1 : Int32))])) _
                refine XS.goto X0.here hx rfl (pc0 := 59) (pc' := 63) rfl (hb hby d2_59) (by decide) (by decide) ?_
                rw [show (j2_63_s0 p1) = (1 : Int32) from ((if_neg hc1_1).trans ((if_neg hc7_2).trans ((if_pos hc13_3).trans ((if_pos hc19_4).trans ((if_neg hc37_5).trans (if_neg hc43_8))))))] at kt
                exact kt
          · refine XS.icmpNo X0.here hx rfl (hb hby d2_19) rfl (feq hc19_4).1 ?_
            show Steps p.tables e below (s₁.setTop (mkF m 22 #[.val (.int p1), .unset] [])) _
            refine XS.iloadN X0.here hx rfl (hb hby d2_22) rfl ?_
            show Steps p.tables e below (s₁.setTop (mkF m 23 #[.val (.int p1), .unset] [(.int p1)])) _
            refine XS.bipush X0.here hx rfl (hb hby d2_23) ?_
            show Steps p.tables e below (s₁.setTop (mkF m 25 #[.val (.int p1), .unset] [(.int (10 : Int32)), (.int p1)])) _
            by_cases hc25_11 : p1 = (10 : Int32)
            · refine XS.icmpYes X0.here hx rfl (pc0 := 25) (pc' := 34) rfl (hb hby d2_25) rfl (teq hc25_11).1 (by decide) (by decide) ?_
              show Steps p.tables e below (s₁.setTop (mkF m 34 #[.val (.int p1), .unset] [])) _
              refine XS.iloadN X0.here hx rfl (hb hby d2_34) rfl ?_
              show Steps p.tables e below (s₁.setTop (mkF m 35 #[.val (.int p1), .unset] [(.int p1)])) _
              refine X0.ldcInt hx hown (mvT hZ (hw _ (List.mem_of_getElem? (i := 18) rfl))) (g := (mkF m 35 #[.val (.int p1), .unset] [(.int p1)])) rfl (hb hby d2_35) _ ?_
              show Steps p.tables e below (s₁.setTop (mkF m 37 #[.val (.int p1), .unset] [(.int (55296 : Int32)), (.int p1)])) _
              by_cases hc37_12 : p1 < (55296 : Int32)
              · refine XS.icmpYes X0.here hx rfl (pc0 := 37) (pc' := 46) rfl (hb hby d2_37) rfl (tlt hc37_12).1 (by decide) (by decide) ?_
                show Steps p.tables e below (s₁.setTop (mkF m 46 #[.val (.int p1), .unset] [])) _
                refine XS.iloadN X0.here hx rfl (hb hby d2_46) rfl ?_
                show Steps p.tables e below (s₁.setTop (mkF m 47 #[.val (.int p1), .unset] [(.int p1)])) _
                refine X0.ldcInt hx hown (mvT hZ (hw _ (List.mem_of_getElem? (i := 19) rfl))) (g := (mkF m 47 #[.val (.int p1), .unset] [(.int p1)])) rfl (hb hby d2_47) _ ?_
                show Steps p.tables e below (s₁.setTop (mkF m 49 #[.val (.int p1), .unset] [(.int (65534 : Int32)), (.int p1)])) _
                by_cases hc49_13 : p1 = (65534 : Int32)
                · refine XS.icmpYes X0.here hx rfl (pc0 := 49) (pc' := 58) rfl (hb hby d2_49) rfl (teq hc49_13).1 (by decide) (by decide) ?_
                  show Steps p.tables e below (s₁.setTop (mkF m 58 #[.val (.int p1), .unset] [])) _
                  refine XS.iconst X0.here hx rfl (hb hby d2_58) ?_
                  show Steps p.tables e below (s₁.setTop (mkF m 59 #[.val (.int p1), .unset] [(.int (1 : Int32))])) _
                  refine XS.goto X0.here hx rfl (pc0 := 59) (pc' := 63) rfl (hb hby d2_59) (by decide) (by decide) ?_
                  rw [show (j2_63_s0 p1) = (1 : Int32) from ((if_neg hc1_1).trans ((if_neg hc7_2).trans ((if_pos hc13_3).trans ((if_neg hc19_4).trans ((if_pos hc25_11).trans ((if_pos hc37_12).trans (if_pos hc49_13)))))))] at kt
                  exact kt
                · refine XS.icmpNo X0.here hx rfl (hb hby d2_49) rfl (feq hc49_13).1 ?_
                  show Steps p.tables e below (s₁.setTop (mkF m 52 #[.val (.int p1), .unset] [])) _
                  refine XS.iloadN X0.here hx rfl (hb hby d2_52) rfl ?_
                  show Steps p.tables e below (s₁.setTop (mkF m 53 #[.val (.int p1), .unset] [(.int p1)])) _
                  refine X0.ldcInt hx hown (mvT hZ (hw _ (List.mem_of_getElem? (i := 4) rfl))) (g := (mkF m 53 #[.val (.int p1), .unset] [(.int p1)])) rfl (hb hby d2_53) _ ?_
                  show Steps p.tables e below (s₁.setTop (mkF m 55 #[.val (.int p1), .unset] [(.int (65535 : Int32)), (.int p1)])) _
                  by_cases hc55_14 : p1 = (65535 : Int32)
                  · refine XS.icmpNo X0.here hx rfl (hb hby d2_55) rfl (teq hc55_14).2 ?_
                    show Steps p.tables e below (s₁.setTop (mkF m 58 #[.val (.int p1), .unset] [])) _
                    refine XS.iconst X0.here hx rfl (hb hby d2_58) ?_
                    show Steps p.tables e below (s₁.setTop (mkF m 59 #[.val (.int p1), .unset] [(.int (1 : Int32))])) _
                    refine XS.goto X0.here hx rfl (pc0 := 59) (pc' := 63) rfl (hb hby d2_59) (by decide) (by decide) ?_
                    rw [show (j2_63_s0 p1) = (1 : Int32) from ((if_neg hc1_1).trans ((if_neg hc7_2).trans ((if_pos hc13_3).trans ((if_neg hc19_4).trans ((if_pos hc25_11).trans ((if_pos hc37_12).trans ((if_neg hc49_13).trans (if_pos hc55_14))))))))] at kt
                    exact kt
                  · refine XS.icmpYes X0.here hx rfl (pc0 := 55) (pc' := 62) rfl (hb hby d2_55) rfl (feq hc55_14).2 (by decide) (by decide) ?_
                    show Steps p.tables e below (s₁.setTop (mkF m 62 #[.val (.int p1), .unset] [])) _
                    refine XS.iconst X0.here hx rfl (hb hby d2_62) ?_
                    rw [show (j2_63_s0 p1) = (0 : Int32) from ((if_neg hc1_1).trans ((if_neg hc7_2).trans ((if_pos hc13_3).trans ((if_neg hc19_4).trans ((if_pos hc25_11).trans ((if_pos hc37_12).trans ((if_neg hc49_13).trans (if_neg hc55_14))))))))] at kt
                    exact kt
              · refine XS.icmpNo X0.here hx rfl (hb hby d2_37) rfl (flt hc37_12).1 ?_
                show Steps p.tables e below (s₁.setTop (mkF m 40 #[.val (.int p1), .unset] [])) _
                refine XS.iloadN X0.here hx rfl (hb hby d2_40) rfl ?_
                show Steps p.tables e below (s₁.setTop (mkF m 41 #[.val (.int p1), .unset] [(.int p1)])) _
                refine X0.ldcInt hx hown (mvT hZ (hw _ (List.mem_of_getElem? (i := 24) rfl))) (g := (mkF m 41 #[.val (.int p1), .unset] [(.int p1)])) rfl (hb hby d2_41) _ ?_
                show Steps p.tables e below (s₁.setTop (mkF m 43 #[.val (.int p1), .unset] [(.int (57343 : Int32)), (.int p1)])) _
                by_cases hc43_15 : (57343 : Int32) < p1
                · refine XS.icmpNo X0.here hx rfl (hb hby d2_43) rfl (tlt hc43_15).2.2.2 ?_
                  show Steps p.tables e below (s₁.setTop (mkF m 46 #[.val (.int p1), .unset] [])) _
                  refine XS.iloadN X0.here hx rfl (hb hby d2_46) rfl ?_
                  show Steps p.tables e below (s₁.setTop (mkF m 47 #[.val (.int p1), .unset] [(.int p1)])) _
                  refine X0.ldcInt hx hown (mvT hZ (hw _ (List.mem_of_getElem? (i := 19) rfl))) (g := (mkF m 47 #[.val (.int p1), .unset] [(.int p1)])) rfl (hb hby d2_47) _ ?_
                  show Steps p.tables e below (s₁.setTop (mkF m 49 #[.val (.int p1), .unset] [(.int (65534 : Int32)), (.int p1)])) _
                  by_cases hc49_16 : p1 = (65534 : Int32)
                  · refine XS.icmpYes X0.here hx rfl (pc0 := 49) (pc' := 58) rfl (hb hby d2_49) rfl (teq hc49_16).1 (by decide) (by decide) ?_
                    show Steps p.tables e below (s₁.setTop (mkF m 58 #[.val (.int p1), .unset] [])) _
                    refine XS.iconst X0.here hx rfl (hb hby d2_58) ?_
                    show Steps p.tables e below (s₁.setTop (mkF m 59 #[.val (.int p1), .unset] [(.int (1 : Int32))])) _
                    refine XS.goto X0.here hx rfl (pc0 := 59) (pc' := 63) rfl (hb hby d2_59) (by decide) (by decide) ?_
                    rw [show (j2_63_s0 p1) = (1 : Int32) from ((if_neg hc1_1).trans ((if_neg hc7_2).trans ((if_pos hc13_3).trans ((if_neg hc19_4).trans ((if_pos hc25_11).trans ((if_neg hc37_12).trans ((if_pos hc43_15).trans (if_pos hc49_16))))))))] at kt
                    exact kt
                  · refine XS.icmpNo X0.here hx rfl (hb hby d2_49) rfl (feq hc49_16).1 ?_
                    show Steps p.tables e below (s₁.setTop (mkF m 52 #[.val (.int p1), .unset] [])) _
                    refine XS.iloadN X0.here hx rfl (hb hby d2_52) rfl ?_
                    show Steps p.tables e below (s₁.setTop (mkF m 53 #[.val (.int p1), .unset] [(.int p1)])) _
                    refine X0.ldcInt hx hown (mvT hZ (hw _ (List.mem_of_getElem? (i := 4) rfl))) (g := (mkF m 53 #[.val (.int p1), .unset] [(.int p1)])) rfl (hb hby d2_53) _ ?_
                    show Steps p.tables e below (s₁.setTop (mkF m 55 #[.val (.int p1), .unset] [(.int (65535 : Int32)), (.int p1)])) _
                    by_cases hc55_17 : p1 = (65535 : Int32)
                    · refine XS.icmpNo X0.here hx rfl (hb hby d2_55) rfl (teq hc55_17).2 ?_
                      show Steps p.tables e below (s₁.setTop (mkF m 58 #[.val (.int p1), .unset] [])) _
                      refine XS.iconst X0.here hx rfl (hb hby d2_58) ?_
                      show Steps p.tables e below (s₁.setTop (mkF m 59 #[.val (.int p1), .unset] [(.int (1 : Int32))])) _
                      refine XS.goto X0.here hx rfl (pc0 := 59) (pc' := 63) rfl (hb hby d2_59) (by decide) (by decide) ?_
                      rw [show (j2_63_s0 p1) = (1 : Int32) from ((if_neg hc1_1).trans ((if_neg hc7_2).trans ((if_pos hc13_3).trans ((if_neg hc19_4).trans ((if_pos hc25_11).trans ((if_neg hc37_12).trans ((if_pos hc43_15).trans ((if_neg hc49_16).trans (if_pos hc55_17)))))))))] at kt
                      exact kt
                    · refine XS.icmpYes X0.here hx rfl (pc0 := 55) (pc' := 62) rfl (hb hby d2_55) rfl (feq hc55_17).2 (by decide) (by decide) ?_
                      show Steps p.tables e below (s₁.setTop (mkF m 62 #[.val (.int p1), .unset] [])) _
                      refine XS.iconst X0.here hx rfl (hb hby d2_62) ?_
                      rw [show (j2_63_s0 p1) = (0 : Int32) from ((if_neg hc1_1).trans ((if_neg hc7_2).trans ((if_pos hc13_3).trans ((if_neg hc19_4).trans ((if_pos hc25_11).trans ((if_neg hc37_12).trans ((if_pos hc43_15).trans ((if_neg hc49_16).trans (if_neg hc55_17)))))))))] at kt
                      exact kt
                · refine XS.icmpYes X0.here hx rfl (pc0 := 43) (pc' := 58) rfl (hb hby d2_43) rfl (flt hc43_15).2.2.2 (by decide) (by decide) ?_
                  show Steps p.tables e below (s₁.setTop (mkF m 58 #[.val (.int p1), .unset] [])) _
                  refine XS.iconst X0.here hx rfl (hb hby d2_58) ?_
                  show Steps p.tables e below (s₁.setTop (mkF m 59 #[.val (.int p1), .unset] [(.int (1 : Int32))])) _
                  refine XS.goto X0.here hx rfl (pc0 := 59) (pc' := 63) rfl (hb hby d2_59) (by decide) (by decide) ?_
                  rw [show (j2_63_s0 p1) = (1 : Int32) from ((if_neg hc1_1).trans ((if_neg hc7_2).trans ((if_pos hc13_3).trans ((if_neg hc19_4).trans ((if_pos hc25_11).trans ((if_neg hc37_12).trans (if_neg hc43_15)))))))] at kt
                  exact kt
            · refine XS.icmpNo X0.here hx rfl (hb hby d2_25) rfl (feq hc25_11).1 ?_
              show Steps p.tables e below (s₁.setTop (mkF m 28 #[.val (.int p1), .unset] [])) _
              refine XS.iloadN X0.here hx rfl (hb hby d2_28) rfl ?_
              show Steps p.tables e below (s₁.setTop (mkF m 29 #[.val (.int p1), .unset] [(.int p1)])) _
              refine XS.bipush X0.here hx rfl (hb hby d2_29) ?_
              show Steps p.tables e below (s₁.setTop (mkF m 31 #[.val (.int p1), .unset] [(.int (13 : Int32)), (.int p1)])) _
              by_cases hc31_18 : p1 = (13 : Int32)
              · refine XS.icmpNo X0.here hx rfl (hb hby d2_31) rfl (teq hc31_18).2 ?_
                show Steps p.tables e below (s₁.setTop (mkF m 34 #[.val (.int p1), .unset] [])) _
                refine XS.iloadN X0.here hx rfl (hb hby d2_34) rfl ?_
                show Steps p.tables e below (s₁.setTop (mkF m 35 #[.val (.int p1), .unset] [(.int p1)])) _
                refine X0.ldcInt hx hown (mvT hZ (hw _ (List.mem_of_getElem? (i := 18) rfl))) (g := (mkF m 35 #[.val (.int p1), .unset] [(.int p1)])) rfl (hb hby d2_35) _ ?_
                show Steps p.tables e below (s₁.setTop (mkF m 37 #[.val (.int p1), .unset] [(.int (55296 : Int32)), (.int p1)])) _
                by_cases hc37_19 : p1 < (55296 : Int32)
                · refine XS.icmpYes X0.here hx rfl (pc0 := 37) (pc' := 46) rfl (hb hby d2_37) rfl (tlt hc37_19).1 (by decide) (by decide) ?_
                  show Steps p.tables e below (s₁.setTop (mkF m 46 #[.val (.int p1), .unset] [])) _
                  refine XS.iloadN X0.here hx rfl (hb hby d2_46) rfl ?_
                  show Steps p.tables e below (s₁.setTop (mkF m 47 #[.val (.int p1), .unset] [(.int p1)])) _
                  refine X0.ldcInt hx hown (mvT hZ (hw _ (List.mem_of_getElem? (i := 19) rfl))) (g := (mkF m 47 #[.val (.int p1), .unset] [(.int p1)])) rfl (hb hby d2_47) _ ?_
                  show Steps p.tables e below (s₁.setTop (mkF m 49 #[.val (.int p1), .unset] [(.int (65534 : Int32)), (.int p1)])) _
                  by_cases hc49_20 : p1 = (65534 : Int32)
                  · refine XS.icmpYes X0.here hx rfl (pc0 := 49) (pc' := 58) rfl (hb hby d2_49) rfl (teq hc49_20).1 (by decide) (by decide) ?_
                    show Steps p.tables e below (s₁.setTop (mkF m 58 #[.val (.int p1), .unset] [])) _
                    refine XS.iconst X0.here hx rfl (hb hby d2_58) ?_
                    show Steps p.tables e below (s₁.setTop (mkF m 59 #[.val (.int p1), .unset] [(.int (1 : Int32))])) _
                    refine XS.goto X0.here hx rfl (pc0 := 59) (pc' := 63) rfl (hb hby d2_59) (by decide) (by decide) ?_
                    rw [show (j2_63_s0 p1) = (1 : Int32) from ((if_neg hc1_1).trans ((if_neg hc7_2).trans ((if_pos hc13_3).trans ((if_neg hc19_4).trans ((if_neg hc25_11).trans ((if_pos hc31_18).trans ((if_pos hc37_19).trans (if_pos hc49_20))))))))] at kt
                    exact kt
                  · refine XS.icmpNo X0.here hx rfl (hb hby d2_49) rfl (feq hc49_20).1 ?_
                    show Steps p.tables e below (s₁.setTop (mkF m 52 #[.val (.int p1), .unset] [])) _
                    refine XS.iloadN X0.here hx rfl (hb hby d2_52) rfl ?_
                    show Steps p.tables e below (s₁.setTop (mkF m 53 #[.val (.int p1), .unset] [(.int p1)])) _
                    refine X0.ldcInt hx hown (mvT hZ (hw _ (List.mem_of_getElem? (i := 4) rfl))) (g := (mkF m 53 #[.val (.int p1), .unset] [(.int p1)])) rfl (hb hby d2_53) _ ?_
                    show Steps p.tables e below (s₁.setTop (mkF m 55 #[.val (.int p1), .unset] [(.int (65535 : Int32)), (.int p1)])) _
                    by_cases hc55_21 : p1 = (65535 : Int32)
                    · refine XS.icmpNo X0.here hx rfl (hb hby d2_55) rfl (teq hc55_21).2 ?_
                      show Steps p.tables e below (s₁.setTop (mkF m 58 #[.val (.int p1), .unset] [])) _
                      refine XS.iconst X0.here hx rfl (hb hby d2_58) ?_
                      show Steps p.tables e below (s₁.setTop (mkF m 59 #[.val (.int p1), .unset] [(.int (1 : Int32))])) _
                      refine XS.goto X0.here hx rfl (pc0 := 59) (pc' := 63) rfl (hb hby d2_59) (by decide) (by decide) ?_
                      rw [show (j2_63_s0 p1) = (1 : Int32) from ((if_neg hc1_1).trans ((if_neg hc7_2).trans ((if_pos hc13_3).trans ((if_neg hc19_4).trans ((if_neg hc25_11).trans ((if_pos hc31_18).trans ((if_pos hc37_19).trans ((if_neg hc49_20).trans (if_pos hc55_21)))))))))] at kt
                      exact kt
                    · refine XS.icmpYes X0.here hx rfl (pc0 := 55) (pc' := 62) rfl (hb hby d2_55) rfl (feq hc55_21).2 (by decide) (by decide) ?_
                      show Steps p.tables e below (s₁.setTop (mkF m 62 #[.val (.int p1), .unset] [])) _
                      refine XS.iconst X0.here hx rfl (hb hby d2_62) ?_
                      rw [show (j2_63_s0 p1) = (0 : Int32) from ((if_neg hc1_1).trans ((if_neg hc7_2).trans ((if_pos hc13_3).trans ((if_neg hc19_4).trans ((if_neg hc25_11).trans ((if_pos hc31_18).trans ((if_pos hc37_19).trans ((if_neg hc49_20).trans (if_neg hc55_21)))))))))] at kt
                      exact kt
                · refine XS.icmpNo X0.here hx rfl (hb hby d2_37) rfl (flt hc37_19).1 ?_
                  show Steps p.tables e below (s₁.setTop (mkF m 40 #[.val (.int p1), .unset] [])) _
                  refine XS.iloadN X0.here hx rfl (hb hby d2_40) rfl ?_
                  show Steps p.tables e below (s₁.setTop (mkF m 41 #[.val (.int p1), .unset] [(.int p1)])) _
                  refine X0.ldcInt hx hown (mvT hZ (hw _ (List.mem_of_getElem? (i := 24) rfl))) (g := (mkF m 41 #[.val (.int p1), .unset] [(.int p1)])) rfl (hb hby d2_41) _ ?_
                  show Steps p.tables e below (s₁.setTop (mkF m 43 #[.val (.int p1), .unset] [(.int (57343 : Int32)), (.int p1)])) _
                  by_cases hc43_22 : (57343 : Int32) < p1
                  · refine XS.icmpNo X0.here hx rfl (hb hby d2_43) rfl (tlt hc43_22).2.2.2 ?_
                    show Steps p.tables e below (s₁.setTop (mkF m 46 #[.val (.int p1), .unset] [])) _
                    refine XS.iloadN X0.here hx rfl (hb hby d2_46) rfl ?_
                    show Steps p.tables e below (s₁.setTop (mkF m 47 #[.val (.int p1), .unset] [(.int p1)])) _
                    refine X0.ldcInt hx hown (mvT hZ (hw _ (List.mem_of_getElem? (i := 19) rfl))) (g := (mkF m 47 #[.val (.int p1), .unset] [(.int p1)])) rfl (hb hby d2_47) _ ?_
                    show Steps p.tables e below (s₁.setTop (mkF m 49 #[.val (.int p1), .unset] [(.int (65534 : Int32)), (.int p1)])) _
                    by_cases hc49_23 : p1 = (65534 : Int32)
                    · refine XS.icmpYes X0.here hx rfl (pc0 := 49) (pc' := 58) rfl (hb hby d2_49) rfl (teq hc49_23).1 (by decide) (by decide) ?_
                      show Steps p.tables e below (s₁.setTop (mkF m 58 #[.val (.int p1), .unset] [])) _
                      refine XS.iconst X0.here hx rfl (hb hby d2_58) ?_
                      show Steps p.tables e below (s₁.setTop (mkF m 59 #[.val (.int p1), .unset] [(.int (1 : Int32))])) _
                      refine XS.goto X0.here hx rfl (pc0 := 59) (pc' := 63) rfl (hb hby d2_59) (by decide) (by decide) ?_
                      rw [show (j2_63_s0 p1) = (1 : Int32) from ((if_neg hc1_1).trans ((if_neg hc7_2).trans ((if_pos hc13_3).trans ((if_neg hc19_4).trans ((if_neg hc25_11).trans ((if_pos hc31_18).trans ((if_neg hc37_19).trans ((if_pos hc43_22).trans (if_pos hc49_23)))))))))] at kt
                      exact kt
                    · refine XS.icmpNo X0.here hx rfl (hb hby d2_49) rfl (feq hc49_23).1 ?_
                      show Steps p.tables e below (s₁.setTop (mkF m 52 #[.val (.int p1), .unset] [])) _
                      refine XS.iloadN X0.here hx rfl (hb hby d2_52) rfl ?_
                      show Steps p.tables e below (s₁.setTop (mkF m 53 #[.val (.int p1), .unset] [(.int p1)])) _
                      refine X0.ldcInt hx hown (mvT hZ (hw _ (List.mem_of_getElem? (i := 4) rfl))) (g := (mkF m 53 #[.val (.int p1), .unset] [(.int p1)])) rfl (hb hby d2_53) _ ?_
                      show Steps p.tables e below (s₁.setTop (mkF m 55 #[.val (.int p1), .unset] [(.int (65535 : Int32)), (.int p1)])) _
                      by_cases hc55_24 : p1 = (65535 : Int32)
                      · refine XS.icmpNo X0.here hx rfl (hb hby d2_55) rfl (teq hc55_24).2 ?_
                        show Steps p.tables e below (s₁.setTop (mkF m 58 #[.val (.int p1), .unset] [])) _
                        refine XS.iconst X0.here hx rfl (hb hby d2_58) ?_
                        show Steps p.tables e below (s₁.setTop (mkF m 59 #[.val (.int p1), .unset] [(.int (1 : Int32))])) _
                        refine XS.goto X0.here hx rfl (pc0 := 59) (pc' := 63) rfl (hb hby d2_59) (by decide) (by decide) ?_
                        rw [show (j2_63_s0 p1) = (1 : Int32) from ((if_neg hc1_1).trans ((if_neg hc7_2).trans ((if_pos hc13_3).trans ((if_neg hc19_4).trans ((if_neg hc25_11).trans ((if_pos hc31_18).trans ((if_neg hc37_19).trans ((if_pos hc43_22).trans ((if_neg hc49_23).trans (if_pos hc55_24))))))))))] at kt
                        exact kt
                      · refine XS.icmpYes X0.here hx rfl (pc0 := 55) (pc' := 62) rfl (hb hby d2_55) rfl (feq hc55_24).2 (by decide) (by decide) ?_
                        show Steps p.tables e below (s₁.setTop (mkF m 62 #[.val (.int p1), .unset] [])) _
                        refine XS.iconst X0.here hx rfl (hb hby d2_62) ?_
                        rw [show (j2_63_s0 p1) = (0 : Int32) from ((if_neg hc1_1).trans ((if_neg hc7_2).trans ((if_pos hc13_3).trans ((if_neg hc19_4).trans ((if_neg hc25_11).trans ((if_pos hc31_18).trans ((if_neg hc37_19).trans ((if_pos hc43_22).trans ((if_neg hc49_23).trans (if_neg hc55_24))))))))))] at kt
                        exact kt
                  · refine XS.icmpYes X0.here hx rfl (pc0 := 43) (pc' := 58) rfl (hb hby d2_43) rfl (flt hc43_22).2.2.2 (by decide) (by decide) ?_
                    show Steps p.tables e below (s₁.setTop (mkF m 58 #[.val (.int p1), .unset] [])) _
                    refine XS.iconst X0.here hx rfl (hb hby d2_58) ?_
                    show Steps p.tables e below (s₁.setTop (mkF m 59 #[.val (.int p1), .unset] [(.int (1 : Int32))])) _
                    refine XS.goto X0.here hx rfl (pc0 := 59) (pc' := 63) rfl (hb hby d2_59) (by decide) (by decide) ?_
                    rw [show (j2_63_s0 p1) = (1 : Int32) from ((if_neg hc1_1).trans ((if_neg hc7_2).trans ((if_pos hc13_3).trans ((if_neg hc19_4).trans ((if_neg hc25_11).trans ((if_pos hc31_18).trans ((if_neg hc37_19).trans (if_neg hc43_22))))))))] at kt
                    exact kt
              · refine XS.icmpYes X0.here hx rfl (pc0 := 31) (pc' := 58) rfl (hb hby d2_31) rfl (feq hc31_18).2 (by decide) (by decide) ?_
                show Steps p.tables e below (s₁.setTop (mkF m 58 #[.val (.int p1), .unset] [])) _
                refine XS.iconst X0.here hx rfl (hb hby d2_58) ?_
                show Steps p.tables e below (s₁.setTop (mkF m 59 #[.val (.int p1), .unset] [(.int (1 : Int32))])) _
                refine XS.goto X0.here hx rfl (pc0 := 59) (pc' := 63) rfl (hb hby d2_59) (by decide) (by decide) ?_
                rw [show (j2_63_s0 p1) = (1 : Int32) from ((if_neg hc1_1).trans ((if_neg hc7_2).trans ((if_pos hc13_3).trans ((if_neg hc19_4).trans ((if_neg hc25_11).trans (if_neg hc31_18))))))] at kt
                exact kt
        · refine XS.icmpYes X0.here hx rfl (pc0 := 13) (pc' := 34) rfl (hb hby d2_13) rfl (flt hc13_3).2.1 (by decide) (by decide) ?_
          show Steps p.tables e below (s₁.setTop (mkF m 34 #[.val (.int p1), .unset] [])) _
          refine XS.iloadN X0.here hx rfl (hb hby d2_34) rfl ?_
          show Steps p.tables e below (s₁.setTop (mkF m 35 #[.val (.int p1), .unset] [(.int p1)])) _
          refine X0.ldcInt hx hown (mvT hZ (hw _ (List.mem_of_getElem? (i := 18) rfl))) (g := (mkF m 35 #[.val (.int p1), .unset] [(.int p1)])) rfl (hb hby d2_35) _ ?_
          show Steps p.tables e below (s₁.setTop (mkF m 37 #[.val (.int p1), .unset] [(.int (55296 : Int32)), (.int p1)])) _
          by_cases hc37_25 : p1 < (55296 : Int32)
          · refine XS.icmpYes X0.here hx rfl (pc0 := 37) (pc' := 46) rfl (hb hby d2_37) rfl (tlt hc37_25).1 (by decide) (by decide) ?_
            show Steps p.tables e below (s₁.setTop (mkF m 46 #[.val (.int p1), .unset] [])) _
            refine XS.iloadN X0.here hx rfl (hb hby d2_46) rfl ?_
            show Steps p.tables e below (s₁.setTop (mkF m 47 #[.val (.int p1), .unset] [(.int p1)])) _
            refine X0.ldcInt hx hown (mvT hZ (hw _ (List.mem_of_getElem? (i := 19) rfl))) (g := (mkF m 47 #[.val (.int p1), .unset] [(.int p1)])) rfl (hb hby d2_47) _ ?_
            show Steps p.tables e below (s₁.setTop (mkF m 49 #[.val (.int p1), .unset] [(.int (65534 : Int32)), (.int p1)])) _
            by_cases hc49_26 : p1 = (65534 : Int32)
            · refine XS.icmpYes X0.here hx rfl (pc0 := 49) (pc' := 58) rfl (hb hby d2_49) rfl (teq hc49_26).1 (by decide) (by decide) ?_
              show Steps p.tables e below (s₁.setTop (mkF m 58 #[.val (.int p1), .unset] [])) _
              refine XS.iconst X0.here hx rfl (hb hby d2_58) ?_
              show Steps p.tables e below (s₁.setTop (mkF m 59 #[.val (.int p1), .unset] [(.int (1 : Int32))])) _
              refine XS.goto X0.here hx rfl (pc0 := 59) (pc' := 63) rfl (hb hby d2_59) (by decide) (by decide) ?_
              rw [show (j2_63_s0 p1) = (1 : Int32) from ((if_neg hc1_1).trans ((if_neg hc7_2).trans ((if_neg hc13_3).trans ((if_pos hc37_25).trans (if_pos hc49_26)))))] at kt
              exact kt
            · refine XS.icmpNo X0.here hx rfl (hb hby d2_49) rfl (feq hc49_26).1 ?_
              show Steps p.tables e below (s₁.setTop (mkF m 52 #[.val (.int p1), .unset] [])) _
              refine XS.iloadN X0.here hx rfl (hb hby d2_52) rfl ?_
              show Steps p.tables e below (s₁.setTop (mkF m 53 #[.val (.int p1), .unset] [(.int p1)])) _
              refine X0.ldcInt hx hown (mvT hZ (hw _ (List.mem_of_getElem? (i := 4) rfl))) (g := (mkF m 53 #[.val (.int p1), .unset] [(.int p1)])) rfl (hb hby d2_53) _ ?_
              show Steps p.tables e below (s₁.setTop (mkF m 55 #[.val (.int p1), .unset] [(.int (65535 : Int32)), (.int p1)])) _
              by_cases hc55_27 : p1 = (65535 : Int32)
              · refine XS.icmpNo X0.here hx rfl (hb hby d2_55) rfl (teq hc55_27).2 ?_
                show Steps p.tables e below (s₁.setTop (mkF m 58 #[.val (.int p1), .unset] [])) _
                refine XS.iconst X0.here hx rfl (hb hby d2_58) ?_
                show Steps p.tables e below (s₁.setTop (mkF m 59 #[.val (.int p1), .unset] [(.int (1 : Int32))])) _
                refine XS.goto X0.here hx rfl (pc0 := 59) (pc' := 63) rfl (hb hby d2_59) (by decide) (by decide) ?_
                rw [show (j2_63_s0 p1) = (1 : Int32) from ((if_neg hc1_1).trans ((if_neg hc7_2).trans ((if_neg hc13_3).trans ((if_pos hc37_25).trans ((if_neg hc49_26).trans (if_pos hc55_27))))))] at kt
                exact kt
              · refine XS.icmpYes X0.here hx rfl (pc0 := 55) (pc' := 62) rfl (hb hby d2_55) rfl (feq hc55_27).2 (by decide) (by decide) ?_
                show Steps p.tables e below (s₁.setTop (mkF m 62 #[.val (.int p1), .unset] [])) _
                refine XS.iconst X0.here hx rfl (hb hby d2_62) ?_
                rw [show (j2_63_s0 p1) = (0 : Int32) from ((if_neg hc1_1).trans ((if_neg hc7_2).trans ((if_neg hc13_3).trans ((if_pos hc37_25).trans ((if_neg hc49_26).trans (if_neg hc55_27))))))] at kt
                exact kt
          · refine XS.icmpNo X0.here hx rfl (hb hby d2_37) rfl (flt hc37_25).1 ?_
            show Steps p.tables e below (s₁.setTop (mkF m 40 #[.val (.int p1), .unset] [])) _
            refine XS.iloadN X0.here hx rfl (hb hby d2_40) rfl ?_
            show Steps p.tables e below (s₁.setTop (mkF m 41 #[.val (.int p1), .unset] [(.int p1)])) _
            refine X0.ldcInt hx hown (mvT hZ (hw _ (List.mem_of_getElem? (i := 24) rfl))) (g := (mkF m 41 #[.val (.int p1), .unset] [(.int p1)])) rfl (hb hby d2_41) _ ?_
            show Steps p.tables e below (s₁.setTop (mkF m 43 #[.val (.int p1), .unset] [(.int (57343 : Int32)), (.int p1)])) _
            by_cases hc43_28 : (57343 : Int32) < p1
            · refine XS.icmpNo X0.here hx rfl (hb hby d2_43) rfl (tlt hc43_28).2.2.2 ?_
              show Steps p.tables e below (s₁.setTop (mkF m 46 #[.val (.int p1), .unset] [])) _
              refine XS.iloadN X0.here hx rfl (hb hby d2_46) rfl ?_
              show Steps p.tables e below (s₁.setTop (mkF m 47 #[.val (.int p1), .unset] [(.int p1)])) _
              refine X0.ldcInt hx hown (mvT hZ (hw _ (List.mem_of_getElem? (i := 19) rfl))) (g := (mkF m 47 #[.val (.int p1), .unset] [(.int p1)])) rfl (hb hby d2_47) _ ?_
              show Steps p.tables e below (s₁.setTop (mkF m 49 #[.val (.int p1), .unset] [(.int (65534 : Int32)), (.int p1)])) _
              by_cases hc49_29 : p1 = (65534 : Int32)
              · refine XS.icmpYes X0.here hx rfl (pc0 := 49) (pc' := 58) rfl (hb hby d2_49) rfl (teq hc49_29).1 (by decide) (by decide) ?_
                show Steps p.tables e below (s₁.setTop (mkF m 58 #[.val (.int p1), .unset] [])) _
                refine XS.iconst X0.here hx rfl (hb hby d2_58) ?_
                show Steps p.tables e below (s₁.setTop (mkF m 59 #[.val (.int p1), .unset] [(.int (1 : Int32))])) _
                refine XS.goto X0.here hx rfl (pc0 := 59) (pc' := 63) rfl (hb hby d2_59) (by decide) (by decide) ?_
                rw [show (j2_63_s0 p1) = (1 : Int32) from ((if_neg hc1_1).trans ((if_neg hc7_2).trans ((if_neg hc13_3).trans ((if_neg hc37_25).trans ((if_pos hc43_28).trans (if_pos hc49_29))))))] at kt
                exact kt
              · refine XS.icmpNo X0.here hx rfl (hb hby d2_49) rfl (feq hc49_29).1 ?_
                show Steps p.tables e below (s₁.setTop (mkF m 52 #[.val (.int p1), .unset] [])) _
                refine XS.iloadN X0.here hx rfl (hb hby d2_52) rfl ?_
                show Steps p.tables e below (s₁.setTop (mkF m 53 #[.val (.int p1), .unset] [(.int p1)])) _
                refine X0.ldcInt hx hown (mvT hZ (hw _ (List.mem_of_getElem? (i := 4) rfl))) (g := (mkF m 53 #[.val (.int p1), .unset] [(.int p1)])) rfl (hb hby d2_53) _ ?_
                show Steps p.tables e below (s₁.setTop (mkF m 55 #[.val (.int p1), .unset] [(.int (65535 : Int32)), (.int p1)])) _
                by_cases hc55_30 : p1 = (65535 : Int32)
                · refine XS.icmpNo X0.here hx rfl (hb hby d2_55) rfl (teq hc55_30).2 ?_
                  show Steps p.tables e below (s₁.setTop (mkF m 58 #[.val (.int p1), .unset] [])) _
                  refine XS.iconst X0.here hx rfl (hb hby d2_58) ?_
                  show Steps p.tables e below (s₁.setTop (mkF m 59 #[.val (.int p1), .unset] [(.int (1 : Int32))])) _
                  refine XS.goto X0.here hx rfl (pc0 := 59) (pc' := 63) rfl (hb hby d2_59) (by decide) (by decide) ?_
                  rw [show (j2_63_s0 p1) = (1 : Int32) from ((if_neg hc1_1).trans ((if_neg hc7_2).trans ((if_neg hc13_3).trans ((if_neg hc37_25).trans ((if_pos hc43_28).trans ((if_neg hc49_29).trans (if_pos hc55_30)))))))] at kt
                  exact kt
                · refine XS.icmpYes X0.here hx rfl (pc0 := 55) (pc' := 62) rfl (hb hby d2_55) rfl (feq hc55_30).2 (by decide) (by decide) ?_
                  show Steps p.tables e below (s₁.setTop (mkF m 62 #[.val (.int p1), .unset] [])) _
                  refine XS.iconst X0.here hx rfl (hb hby d2_62) ?_
                  rw [show (j2_63_s0 p1) = (0 : Int32) from ((if_neg hc1_1).trans ((if_neg hc7_2).trans ((if_neg hc13_3).trans ((if_neg hc37_25).trans ((if_pos hc43_28).trans ((if_neg hc49_29).trans (if_neg hc55_30)))))))] at kt
                  exact kt
            · refine XS.icmpYes X0.here hx rfl (pc0 := 43) (pc' := 58) rfl (hb hby d2_43) rfl (flt hc43_28).2.2.2 (by decide) (by decide) ?_
              show Steps p.tables e below (s₁.setTop (mkF m 58 #[.val (.int p1), .unset] [])) _
              refine XS.iconst X0.here hx rfl (hb hby d2_58) ?_
              show Steps p.tables e below (s₁.setTop (mkF m 59 #[.val (.int p1), .unset] [(.int (1 : Int32))])) _
              refine XS.goto X0.here hx rfl (pc0 := 59) (pc' := 63) rfl (hb hby d2_59) (by decide) (by decide) ?_
              rw [show (j2_63_s0 p1) = (1 : Int32) from ((if_neg hc1_1).trans ((if_neg hc7_2).trans ((if_neg hc13_3).trans ((if_neg hc37_25).trans (if_neg hc43_28)))))] at kt
              exact kt
  have sg64_33 : ∀ t, Steps p.tables e below (s₁.setTop (mkF m 73 #[.val (.int p1), .val (.int (j2_63_s0 p1))] [(.int (j2_73_s0 p1))])) t → Steps p.tables e below (s₁.setTop (mkF m 64 #[.val (.int p1), .val (.int (j2_63_s0 p1))] [])) t := by
    intro t kt
    show Steps p.tables e below (s₁.setTop (mkF m 64 #[.val (.int p1), .val (.int (j2_63_s0 p1))] [])) _
    refine XS.iloadN X0.here hx rfl (hb hby d2_64) rfl ?_
    show Steps p.tables e below (s₁.setTop (mkF m 65 #[.val (.int p1), .val (.int (j2_63_s0 p1))] [(.int (j2_63_s0 p1))])) _
    by_cases hc65_32 : (j2_63_s0 p1) = (0 : Int32)
    · refine XS.ifNo X0.here hx rfl (hb hby d2_65) rfl ((if0 _ _).trans (teq hc65_32).2) ?_
      show Steps p.tables e below (s₁.setTop (mkF m 68 #[.val (.int p1), .val (.int (j2_63_s0 p1))] [])) _
      refine XS.iconst X0.here hx rfl (hb hby d2_68) ?_
      show Steps p.tables e below (s₁.setTop (mkF m 69 #[.val (.int p1), .val (.int (j2_63_s0 p1))] [(.int (1 : Int32))])) _
      refine XS.goto X0.here hx rfl (pc0 := 69) (pc' := 73) rfl (hb hby d2_69) (by decide) (by decide) ?_
      rw [show (j2_73_s0 p1) = (1 : Int32) from (if_pos hc65_32)] at kt
      exact kt
    · refine XS.ifYes X0.here hx rfl (pc0 := 65) (pc' := 72) rfl (hb hby d2_65) rfl ((if0 _ _).trans (feq hc65_32).2) (by decide) (by decide) ?_
      show Steps p.tables e below (s₁.setTop (mkF m 72 #[.val (.int p1), .val (.int (j2_63_s0 p1))] [])) _
      refine XS.iconst X0.here hx rfl (hb hby d2_72) ?_
      rw [show (j2_73_s0 p1) = (0 : Int32) from (if_neg hc65_32)] at kt
      exact kt
  have hnar : nar .boolean (j2_73_s0 p1) = (j2_73_s0 p1) := by
    unfold j2_73_s0
    repeat' split
    all_goals rfl
  obtain ⟨fs, hr, hrun, hended, hW, hsame⟩ := X0.leave (v := some (.int (j2_73_s0 p1))) (fun h => by rw [Bd.returns] at h; cases h)
  refine ⟨_, _, pre0 _ ?_, hrun, hended, _, _, rfl, ?_, ⟨_, rfl⟩, hW, hsame.mono (by decide) (by decide)⟩
  · show Steps p.tables e below (s₁.setTop (mkF m 0 #[.val (.int p1), .unset] [])) _
    refine sg0_31 _ ?_
    show Steps p.tables e below (s₁.setTop (mkF m 63 #[.val (.int p1), .unset] [(.int (j2_63_s0 p1))])) _
    refine XS.istoreN X0.here hx rfl (hb hby d2_63) rfl (l' := #[.val (.int p1), .val (.int (j2_63_s0 p1))]) rfl ?_
    show Steps p.tables e below (s₁.setTop (mkF m 64 #[.val (.int p1), .val (.int (j2_63_s0 p1))] [])) _
    refine sg64_33 _ ?_
    show Steps p.tables e below (s₁.setTop (mkF m 73 #[.val (.int p1), .val (.int (j2_63_s0 p1))] [(.int (j2_73_s0 p1))])) _
    exact retN X0 hx (t := .boolean) Bd.returns (by simp) (hb hby d2_73) (by rw [hnar]; exact hr)
  · show Q2 Z p1 h0 n0 _ s₁.heap _
    rw [e0]
    exact ⟨rfl, N0, rfl⟩
theorem pd_0 : parseMethodDescriptor "(I)Z" = some ⟨[.int], some .boolean⟩ := by decide +kernel
theorem ef_0 (m : MethodId) (p1 : Int32) (p2 : Int32) : entryFrame m #[(.int p1), (.int p2)] maxLocals = mkF m 0 #[.val (.int p1), .val (.int p2), .unset, .unset, .unset, .unset, .unset, .unset] [] := by first | (simp [entryFrame, mkF, argsToLocals, Value.category, maxLocals]; done) | rfl
def j0_112_s0 (p1 : Int32) (p2 : Int32) : Int32 := (if (v1 p1) = (v2 p1) then (1 : Int32) else (0 : Int32))
def j0_132_s0 (p1 : Int32) (p2 : Int32) : Int32 := (if (v1 ((own_at ((p2 &&& (2147483647 : Int32)) - ((p2 &&& (2147483647 : Int32)) / (12 : Int32)) * (12 : Int32))) + ((((p2.toUInt32 >>> ((8 : Int32) &&& 31).toUInt32).toInt32) - (((p2.toUInt32 >>> ((8 : Int32) &&& 31).toUInt32).toInt32) / (3 : Int32)) * (3 : Int32)) - (1 : Int32)))) = (v2 ((own_at ((p2 &&& (2147483647 : Int32)) - ((p2 &&& (2147483647 : Int32)) / (12 : Int32)) * (12 : Int32))) + ((((p2.toUInt32 >>> ((8 : Int32) &&& 31).toUInt32).toInt32) - (((p2.toUInt32 >>> ((8 : Int32) &&& 31).toUInt32).toInt32) / (3 : Int32)) * (3 : Int32)) - (1 : Int32)))) then (1 : Int32) else (0 : Int32))
def j0_149_s0 (p1 : Int32) (p2 : Int32) : Int32 := (if (j0_112_s0 p1 p2) = (0 : Int32) then (0 : Int32) else (if (j0_132_s0 p1 p2) = (0 : Int32) then (0 : Int32) else (1 : Int32)))
def v0 (p1 : Int32) (p2 : Int32) : Int32 := (j0_149_s0 p1 p2)
def Q0 (Z : State) (p1 : Int32) (p2 : Int32) (h0 : Heap) (n0 : Nat) (v : Option Value) (h : Heap) (L : List Loc) : Prop := v = some (.int (v0 p1 p2)) ∧ Fr n0 L ∧ True
set_option maxRecDepth 65536 in
set_option maxHeartbeats 40000000 in
theorem rm0 (l : Launch) (Z : State) (a0 : Array Value) (hw : ∀ d ∈ tables_1, d.before a0 Z = true) (ws : List Jvm.Cond) (p1 : Int32) (p2 : Int32) (h0 : Heap) (n0 : Nat) (Z0 : n0 ≤ h0.size) :
    MetFree l x (head1 (Jvm.Cond.code x code maxLocals ret :: ws) room_1) (fun a U => a = #[(.int p1), (.int p2)] ∧ Z.Warmed39 U.vm ∧ U.heap = h0) (fun _ _ _ _ _ => True) (fun _ U o U' => ∃ v L, o = .returned v ∧ Q0 Z p1 p2 h0 n0 v U'.heap L ∧ FrameEnd U o U' L room_1.cells room_1.slots) := by
  refine MetFree.of_bodySF (plainFor_of_name pn_1) hisR ?_
  intro p e s m args below meth c s₁ Bd hml0 hP hK
  obtain ⟨rfl, hZ, hh⟩ := hP
  have hx := Bd.exec
  have hby := Bd.bytes
  have hml : c.maxLocals = 8 := hml0
  have hown : s.vm.findClass "com/example/paths_into_automata/pathsintoautomata/io/XmlNamesIsCharPinLaw" = some m.cls := findClass_of_methodNamed Bd.named
  have hnm := (name_of_methodNamed Bd.named Bd.method).1
  have X0 : Stand p l e room_1 s m #[(.int p1), (.int p2)] below meth c s₁ [] 0 0 := Stand.of_body Bd
  have e0 : s₁.heap = h0 := by rw [← hh, Bd.state]; rfl
  have N0 := Fr.nil n0
  have pre0 : ∀ t, Steps p.tables e below (s₁.setTop (mkF m 0 #[.val (.int p1), .val (.int p2), .unset, .unset, .unset, .unset, .unset, .unset] [])) t → Steps p.tables e below (s₁.setTop (entryFrame m #[(.int p1), (.int p2)] maxLocals)) t := fun t k => castTop (ef_0 m p1 p2) k
  obtain ⟨T1, h1, k1, X1, e1, E1, A1, st1⟩ := newP X0 hx hZ (hw _ (List.mem_of_getElem? (i := 0) rfl)) e0 (g := (mkF m 2 #[.val (.int p1), .val (.int p2), .unset, .unset, .unset, .unset, .unset, .unset] [(.int (12 : Int32))])) rfl (hb hby at_2) rfl (by decide) (cap := 12) (by decide) (by decide) (by decide) (by decide)
  obtain ⟨b1, g1⟩ : ∃ z, z = h0.size := ⟨_, rfl⟩
  rw [← g1] at A1 st1
  have V_b1 : Arv Z h1 b1 k1 .int (12 : Int32) [(.int (0 : Int32)), (.int (0 : Int32)), (.int (0 : Int32)), (.int (0 : Int32)), (.int (0 : Int32)), (.int (0 : Int32)), (.int (0 : Int32)), (.int (0 : Int32)), (.int (0 : Int32)), (.int (0 : Int32)), (.int (0 : Int32)), (.int (0 : Int32))] (.int (0 : Int32)) := (Arv.new A1 (by decide)).pad (pad_rep [] (.int (0 : Int32)) 12)
  have g_b1 : n0 ≤ b1 := Nat.le_trans Z0 (Nat.le_of_eq g1.symm)
  have Z1 : n0 ≤ h1.size := Nat.le_trans Z0 E1.1
  obtain ⟨cl2, Ar2, qq2, S2, M2, H2, G2⟩ := V_b1
  have hin2 : ¬ ((0 : Int32) < 0 ∨ cl2.slots.size ≤ ((0 : Int32)).toNatClampNeg) := inb_of S2 ⟨by decide, by decide⟩
  obtain ⟨T2, h2, X2, e2, W2, st2⟩ := stI X1 hx hZ e1 Ar2 (j := (0 : Int32)) hin2 (g := (mkF m 7 #[.val (.int p1), .val (.int p2), .unset, .unset, .unset, .unset, .unset, .unset] [(.int (0 : Int32)), (.int (0 : Int32)), (.ref b1), (.ref b1)])) rfl rfl (hb hby at_7)
  have V_b1_2 : Arv Z h2 b1 k1 .int (12 : Int32) [(.int (0 : Int32)), (.int (0 : Int32)), (.int (0 : Int32)), (.int (0 : Int32)), (.int (0 : Int32)), (.int (0 : Int32)), (.int (0 : Int32)), (.int (0 : Int32)), (.int (0 : Int32)), (.int (0 : Int32)), (.int (0 : Int32)), (.int (0 : Int32))] (.int (0 : Int32)) := Arv.set Ar2 qq2 S2 M2 H2 G2 rfl W2 0 rfl (Nat.le_of_ble_eq_true rfl)
  have N2 := Fr.snoc X2 N0 g_b1
  have Z2 : n0 ≤ h2.size := Nat.le_trans Z1 (Keep.of_wr W2).1
  obtain ⟨cl3, Ar3, qq3, S3, M3, H3, G3⟩ := V_b1_2
  have hin3 : ¬ ((1 : Int32) < 0 ∨ cl3.slots.size ≤ ((1 : Int32)).toNatClampNeg) := inb_of S3 ⟨by decide, by decide⟩
  obtain ⟨T3, h3, X3, e3, W3, st3⟩ := stI X2 hx hZ e2 Ar3 (j := (1 : Int32)) hin3 (g := (mkF m 12 #[.val (.int p1), .val (.int p2), .unset, .unset, .unset, .unset, .unset, .unset] [(.int (9 : Int32)), (.int (1 : Int32)), (.ref b1), (.ref b1)])) rfl rfl (hb hby at_12)
  have V_b1_3 : Arv Z h3 b1 k1 .int (12 : Int32) [(.int (0 : Int32)), (.int (9 : Int32)), (.int (0 : Int32)), (.int (0 : Int32)), (.int (0 : Int32)), (.int (0 : Int32)), (.int (0 : Int32)), (.int (0 : Int32)), (.int (0 : Int32)), (.int (0 : Int32)), (.int (0 : Int32)), (.int (0 : Int32))] (.int (0 : Int32)) := Arv.set Ar3 qq3 S3 M3 H3 G3 rfl W3 1 rfl (Nat.le_of_ble_eq_true rfl)
  have N3 := Fr.snoc X3 N2 g_b1
  have Z3 : n0 ≤ h3.size := Nat.le_trans Z2 (Keep.of_wr W3).1
  obtain ⟨cl4, Ar4, qq4, S4, M4, H4, G4⟩ := V_b1_3
  have hin4 : ¬ ((2 : Int32) < 0 ∨ cl4.slots.size ≤ ((2 : Int32)).toNatClampNeg) := inb_of S4 ⟨by decide, by decide⟩
  obtain ⟨T4, h4, X4, e4, W4, st4⟩ := stI X3 hx hZ e3 Ar4 (j := (2 : Int32)) hin4 (g := (mkF m 17 #[.val (.int p1), .val (.int p2), .unset, .unset, .unset, .unset, .unset, .unset] [(.int (10 : Int32)), (.int (2 : Int32)), (.ref b1), (.ref b1)])) rfl rfl (hb hby at_17)
  have V_b1_4 : Arv Z h4 b1 k1 .int (12 : Int32) [(.int (0 : Int32)), (.int (9 : Int32)), (.int (10 : Int32)), (.int (0 : Int32)), (.int (0 : Int32)), (.int (0 : Int32)), (.int (0 : Int32)), (.int (0 : Int32)), (.int (0 : Int32)), (.int (0 : Int32)), (.int (0 : Int32)), (.int (0 : Int32))] (.int (0 : Int32)) := Arv.set Ar4 qq4 S4 M4 H4 G4 rfl W4 2 rfl (Nat.le_of_ble_eq_true rfl)
  have N4 := Fr.snoc X4 N3 g_b1
  have Z4 : n0 ≤ h4.size := Nat.le_trans Z3 (Keep.of_wr W4).1
  obtain ⟨cl5, Ar5, qq5, S5, M5, H5, G5⟩ := V_b1_4
  have hin5 : ¬ ((3 : Int32) < 0 ∨ cl5.slots.size ≤ ((3 : Int32)).toNatClampNeg) := inb_of S5 ⟨by decide, by decide⟩
  obtain ⟨T5, h5, X5, e5, W5, st5⟩ := stI X4 hx hZ e4 Ar5 (j := (3 : Int32)) hin5 (g := (mkF m 22 #[.val (.int p1), .val (.int p2), .unset, .unset, .unset, .unset, .unset, .unset] [(.int (13 : Int32)), (.int (3 : Int32)), (.ref b1), (.ref b1)])) rfl rfl (hb hby at_22)
  have V_b1_5 : Arv Z h5 b1 k1 .int (12 : Int32) [(.int (0 : Int32)), (.int (9 : Int32)), (.int (10 : Int32)), (.int (13 : Int32)), (.int (0 : Int32)), (.int (0 : Int32)), (.int (0 : Int32)), (.int (0 : Int32)), (.int (0 : Int32)), (.int (0 : Int32)), (.int (0 : Int32)), (.int (0 : Int32))] (.int (0 : Int32)) := Arv.set Ar5 qq5 S5 M5 H5 G5 rfl W5 3 rfl (Nat.le_of_ble_eq_true rfl)
  have N5 := Fr.snoc X5 N4 g_b1
  have Z5 : n0 ≤ h5.size := Nat.le_trans Z4 (Keep.of_wr W5).1
  obtain ⟨cl6, Ar6, qq6, S6, M6, H6, G6⟩ := V_b1_5
  have hin6 : ¬ ((4 : Int32) < 0 ∨ cl6.slots.size ≤ ((4 : Int32)).toNatClampNeg) := inb_of S6 ⟨by decide, by decide⟩
  obtain ⟨T6, h6, X6, e6, W6, st6⟩ := stI X5 hx hZ e5 Ar6 (j := (4 : Int32)) hin6 (g := (mkF m 27 #[.val (.int p1), .val (.int p2), .unset, .unset, .unset, .unset, .unset, .unset] [(.int (32 : Int32)), (.int (4 : Int32)), (.ref b1), (.ref b1)])) rfl rfl (hb hby at_27)
  have V_b1_6 : Arv Z h6 b1 k1 .int (12 : Int32) [(.int (0 : Int32)), (.int (9 : Int32)), (.int (10 : Int32)), (.int (13 : Int32)), (.int (32 : Int32)), (.int (0 : Int32)), (.int (0 : Int32)), (.int (0 : Int32)), (.int (0 : Int32)), (.int (0 : Int32)), (.int (0 : Int32)), (.int (0 : Int32))] (.int (0 : Int32)) := Arv.set Ar6 qq6 S6 M6 H6 G6 rfl W6 4 rfl (Nat.le_of_ble_eq_true rfl)
  have N6 := Fr.snoc X6 N5 g_b1
  have Z6 : n0 ≤ h6.size := Nat.le_trans Z5 (Keep.of_wr W6).1
  obtain ⟨cl7, Ar7, qq7, S7, M7, H7, G7⟩ := V_b1_6
  have hin7 : ¬ ((5 : Int32) < 0 ∨ cl7.slots.size ≤ ((5 : Int32)).toNatClampNeg) := inb_of S7 ⟨by decide, by decide⟩
  obtain ⟨T7, h7, X7, e7, W7, st7⟩ := stI X6 hx hZ e6 Ar7 (j := (5 : Int32)) hin7 (g := (mkF m 32 #[.val (.int p1), .val (.int p2), .unset, .unset, .unset, .unset, .unset, .unset] [(.int (55295 : Int32)), (.int (5 : Int32)), (.ref b1), (.ref b1)])) rfl rfl (hb hby at_32)
  have V_b1_7 : Arv Z h7 b1 k1 .int (12 : Int32) [(.int (0 : Int32)), (.int (9 : Int32)), (.int (10 : Int32)), (.int (13 : Int32)), (.int (32 : Int32)), (.int (55295 : Int32)), (.int (0 : Int32)), (.int (0 : Int32)), (.int (0 : Int32)), (.int (0 : Int32)), (.int (0 : Int32)), (.int (0 : Int32))] (.int (0 : Int32)) := Arv.set Ar7 qq7 S7 M7 H7 G7 rfl W7 5 rfl (Nat.le_of_ble_eq_true rfl)
  have N7 := Fr.snoc X7 N6 g_b1
  have Z7 : n0 ≤ h7.size := Nat.le_trans Z6 (Keep.of_wr W7).1
  obtain ⟨cl8, Ar8, qq8, S8, M8, H8, G8⟩ := V_b1_7
  have hin8 : ¬ ((6 : Int32) < 0 ∨ cl8.slots.size ≤ ((6 : Int32)).toNatClampNeg) := inb_of S8 ⟨by decide, by decide⟩
  obtain ⟨T8, h8, X8, e8, W8, st8⟩ := stI X7 hx hZ e7 Ar8 (j := (6 : Int32)) hin8 (g := (mkF m 38 #[.val (.int p1), .val (.int p2), .unset, .unset, .unset, .unset, .unset, .unset] [(.int (57344 : Int32)), (.int (6 : Int32)), (.ref b1), (.ref b1)])) rfl rfl (hb hby at_38)
  have V_b1_8 : Arv Z h8 b1 k1 .int (12 : Int32) [(.int (0 : Int32)), (.int (9 : Int32)), (.int (10 : Int32)), (.int (13 : Int32)), (.int (32 : Int32)), (.int (55295 : Int32)), (.int (57344 : Int32)), (.int (0 : Int32)), (.int (0 : Int32)), (.int (0 : Int32)), (.int (0 : Int32)), (.int (0 : Int32))] (.int (0 : Int32)) := Arv.set Ar8 qq8 S8 M8 H8 G8 rfl W8 6 rfl (Nat.le_of_ble_eq_true rfl)
  have N8 := Fr.snoc X8 N7 g_b1
  have Z8 : n0 ≤ h8.size := Nat.le_trans Z7 (Keep.of_wr W8).1
  obtain ⟨cl9, Ar9, qq9, S9, M9, H9, G9⟩ := V_b1_8
  have hin9 : ¬ ((7 : Int32) < 0 ∨ cl9.slots.size ≤ ((7 : Int32)).toNatClampNeg) := inb_of S9 ⟨by decide, by decide⟩
  obtain ⟨T9, h9, X9, e9, W9, st9⟩ := stI X8 hx hZ e8 Ar9 (j := (7 : Int32)) hin9 (g := (mkF m 44 #[.val (.int p1), .val (.int p2), .unset, .unset, .unset, .unset, .unset, .unset] [(.int (65533 : Int32)), (.int (7 : Int32)), (.ref b1), (.ref b1)])) rfl rfl (hb hby at_44)
  have V_b1_9 : Arv Z h9 b1 k1 .int (12 : Int32) [(.int (0 : Int32)), (.int (9 : Int32)), (.int (10 : Int32)), (.int (13 : Int32)), (.int (32 : Int32)), (.int (55295 : Int32)), (.int (57344 : Int32)), (.int (65533 : Int32)), (.int (0 : Int32)), (.int (0 : Int32)), (.int (0 : Int32)), (.int (0 : Int32))] (.int (0 : Int32)) := Arv.set Ar9 qq9 S9 M9 H9 G9 rfl W9 7 rfl (Nat.le_of_ble_eq_true rfl)
  have N9 := Fr.snoc X9 N8 g_b1
  have Z9 : n0 ≤ h9.size := Nat.le_trans Z8 (Keep.of_wr W9).1
  obtain ⟨cl10, Ar10, qq10, S10, M10, H10, G10⟩ := V_b1_9
  have hin10 : ¬ ((8 : Int32) < 0 ∨ cl10.slots.size ≤ ((8 : Int32)).toNatClampNeg) := inb_of S10 ⟨by decide, by decide⟩
  obtain ⟨T10, h10, X10, e10, W10, st10⟩ := stI X9 hx hZ e9 Ar10 (j := (8 : Int32)) hin10 (g := (mkF m 50 #[.val (.int p1), .val (.int p2), .unset, .unset, .unset, .unset, .unset, .unset] [(.int (65535 : Int32)), (.int (8 : Int32)), (.ref b1), (.ref b1)])) rfl rfl (hb hby at_50)
  have V_b1_10 : Arv Z h10 b1 k1 .int (12 : Int32) [(.int (0 : Int32)), (.int (9 : Int32)), (.int (10 : Int32)), (.int (13 : Int32)), (.int (32 : Int32)), (.int (55295 : Int32)), (.int (57344 : Int32)), (.int (65533 : Int32)), (.int (65535 : Int32)), (.int (0 : Int32)), (.int (0 : Int32)), (.int (0 : Int32))] (.int (0 : Int32)) := Arv.set Ar10 qq10 S10 M10 H10 G10 rfl W10 8 rfl (Nat.le_of_ble_eq_true rfl)
  have N10 := Fr.snoc X10 N9 g_b1
  have Z10 : n0 ≤ h10.size := Nat.le_trans Z9 (Keep.of_wr W10).1
  obtain ⟨cl11, Ar11, qq11, S11, M11, H11, G11⟩ := V_b1_10
  have hin11 : ¬ ((9 : Int32) < 0 ∨ cl11.slots.size ≤ ((9 : Int32)).toNatClampNeg) := inb_of S11 ⟨by decide, by decide⟩
  obtain ⟨T11, h11, X11, e11, W11, st11⟩ := stI X10 hx hZ e10 Ar11 (j := (9 : Int32)) hin11 (g := (mkF m 56 #[.val (.int p1), .val (.int p2), .unset, .unset, .unset, .unset, .unset, .unset] [(.int (65536 : Int32)), (.int (9 : Int32)), (.ref b1), (.ref b1)])) rfl rfl (hb hby at_56)
  have V_b1_11 : Arv Z h11 b1 k1 .int (12 : Int32) [(.int (0 : Int32)), (.int (9 : Int32)), (.int (10 : Int32)), (.int (13 : Int32)), (.int (32 : Int32)), (.int (55295 : Int32)), (.int (57344 : Int32)), (.int (65533 : Int32)), (.int (65535 : Int32)), (.int (65536 : Int32)), (.int (0 : Int32)), (.int (0 : Int32))] (.int (0 : Int32)) := Arv.set Ar11 qq11 S11 M11 H11 G11 rfl W11 9 rfl (Nat.le_of_ble_eq_true rfl)
  have N11 := Fr.snoc X11 N10 g_b1
  have Z11 : n0 ≤ h11.size := Nat.le_trans Z10 (Keep.of_wr W11).1
  obtain ⟨cl12, Ar12, qq12, S12, M12, H12, G12⟩ := V_b1_11
  have hin12 : ¬ ((10 : Int32) < 0 ∨ cl12.slots.size ≤ ((10 : Int32)).toNatClampNeg) := inb_of S12 ⟨by decide, by decide⟩
  obtain ⟨T12, h12, X12, e12, W12, st12⟩ := stI X11 hx hZ e11 Ar12 (j := (10 : Int32)) hin12 (g := (mkF m 62 #[.val (.int p1), .val (.int p2), .unset, .unset, .unset, .unset, .unset, .unset] [(.int (1114111 : Int32)), (.int (10 : Int32)), (.ref b1), (.ref b1)])) rfl rfl (hb hby at_62)
  have V_b1_12 : Arv Z h12 b1 k1 .int (12 : Int32) [(.int (0 : Int32)), (.int (9 : Int32)), (.int (10 : Int32)), (.int (13 : Int32)), (.int (32 : Int32)), (.int (55295 : Int32)), (.int (57344 : Int32)), (.int (65533 : Int32)), (.int (65535 : Int32)), (.int (65536 : Int32)), (.int (1114111 : Int32)), (.int (0 : Int32))] (.int (0 : Int32)) := Arv.set Ar12 qq12 S12 M12 H12 G12 rfl W12 10 rfl (Nat.le_of_ble_eq_true rfl)
  have N12 := Fr.snoc X12 N11 g_b1
  have Z12 : n0 ≤ h12.size := Nat.le_trans Z11 (Keep.of_wr W12).1
  obtain ⟨cl13, Ar13, qq13, S13, M13, H13, G13⟩ := V_b1_12
  have hin13 : ¬ ((11 : Int32) < 0 ∨ cl13.slots.size ≤ ((11 : Int32)).toNatClampNeg) := inb_of S13 ⟨by decide, by decide⟩
  obtain ⟨T13, h13, X13, e13, W13, st13⟩ := stI X12 hx hZ e12 Ar13 (j := (11 : Int32)) hin13 (g := (mkF m 68 #[.val (.int p1), .val (.int p2), .unset, .unset, .unset, .unset, .unset, .unset] [(.int (-2147483648 : Int32)), (.int (11 : Int32)), (.ref b1), (.ref b1)])) rfl rfl (hb hby at_68)
  have V_b1_13 : Arv Z h13 b1 k1 .int (12 : Int32) [(.int (0 : Int32)), (.int (9 : Int32)), (.int (10 : Int32)), (.int (13 : Int32)), (.int (32 : Int32)), (.int (55295 : Int32)), (.int (57344 : Int32)), (.int (65533 : Int32)), (.int (65535 : Int32)), (.int (65536 : Int32)), (.int (1114111 : Int32)), (.int (-2147483648 : Int32))] (.int (0 : Int32)) := Arv.set Ar13 qq13 S13 M13 H13 G13 rfl W13 11 rfl (Nat.le_of_ble_eq_true rfl)
  have N13 := Fr.snoc X13 N12 g_b1
  have Z13 : n0 ≤ h13.size := Nat.le_trans Z12 (Keep.of_wr W13).1
  obtain ⟨cl14, Ar14, qq14, S14, M14, H14, G14⟩ := V_b1_13
  have hin14 : ¬ (((p2 &&& (2147483647 : Int32)) - ((p2 &&& (2147483647 : Int32)) / (12 : Int32)) * (12 : Int32)) < 0 ∨ cl14.slots.size ≤ (((p2 &&& (2147483647 : Int32)) - ((p2 &&& (2147483647 : Int32)) / (12 : Int32)) * (12 : Int32))).toNatClampNeg) := inb_of S14 (own_at_in p1 p2)
  have hat14 : cl14.slots[(((p2 &&& (2147483647 : Int32)) - ((p2 &&& (2147483647 : Int32)) / (12 : Int32)) * (12 : Int32))).toNatClampNeg]? = some (.int (own_at ((p2 &&& (2147483647 : Int32)) - ((p2 &&& (2147483647 : Int32)) / (12 : Int32)) * (12 : Int32)))) := (H14 _ (Nat.lt_of_not_le fun q => hin14 (Or.inr q))).trans (congrArg some (own_at_eq _))
  obtain ⟨_, _, ⟨T15, L15, k15, n15⟩, -, X15, ⟨Lc15, hQ15, l15, y15, z15⟩, st15⟩ := Jvm.LawKit.callS X13 hx (y := (⟨"com/example/paths_into_automata/pathsintoautomata/io/XmlNames", "isChar", "(I)Z"⟩ : MethodName)) hown (mvT hZ (hw _ (List.mem_of_getElem? (i := 9) rfl))) (mvT hZ (hw _ (List.mem_of_getElem? (i := 10) rfl))) (mvT hZ (hw _ (List.mem_of_getElem? (i := 11) rfl))) (mvT hZ (hw _ (List.mem_of_getElem? (i := 12) rfl))) (by decide) (backOf (W := 0) (rm1 l Z a0 hw [] p1 h13 n0 Z13) hZ (hw _ (List.mem_of_getElem? (i := 12) rfl)) (hw _ (List.mem_of_getElem? (i := 11) rfl)) (by decide) (by decide)) (g := (mkF m 97 #[.val (.int p1), .val (.int p2), .val (.ref b1), .val (.int (own_at ((p2 &&& (2147483647 : Int32)) - ((p2 &&& (2147483647 : Int32)) / (12 : Int32)) * (12 : Int32)))), .val (.int ((((p2.toUInt32 >>> ((8 : Int32) &&& 31).toUInt32).toInt32) - (((p2.toUInt32 >>> ((8 : Int32) &&& 31).toUInt32).toInt32) / (3 : Int32)) * (3 : Int32)) - (1 : Int32))), .val (.int ((own_at ((p2 &&& (2147483647 : Int32)) - ((p2 &&& (2147483647 : Int32)) / (12 : Int32)) * (12 : Int32))) + ((((p2.toUInt32 >>> ((8 : Int32) &&& 31).toUInt32).toInt32) - (((p2.toUInt32 >>> ((8 : Int32) &&& 31).toUInt32).toInt32) / (3 : Int32)) * (3 : Int32)) - (1 : Int32)))), .unset, .unset] [(.int p1)])) rfl (by rw [hml]; rfl) (argsL := [(.int p1)]) (rest := []) (lenOf pd_0 rfl) rfl (by show 2 * 0 + _ ≤ _; exact Nat.le_of_eq rfl) (hb hby at_97) (fun _ _ => ⟨rfl, e13, (by decide : 1 + 0 ≤ _), (by decide : 12 + 0 ≤ _)⟩)
  dsimp only [Pt.U, Pt.locs, Pt.cells, Pt.slots] at X15 l15 y15 z15 st15 hQ15
  subst l15 y15 z15
  obtain ⟨rfl, N15q, e15⟩ := hQ15
  have N15 := Fr.app N13 N15q
  obtain ⟨_, _, ⟨T16, L16, k16, n16⟩, -, X16, ⟨Lc16, hQ16, l16, y16, z16⟩, st16⟩ := Jvm.LawKit.callS X15 hx (y := (⟨"com/example/paths_into_automata/pathsintoautomata/io/XmlNamesIsCharPinLaw", "expected", "(I)Z"⟩ : MethodName)) hown (mvT hZ (hw _ (List.mem_of_getElem? (i := 13) rfl))) (mvT hZ (hw _ (List.mem_of_getElem? (i := 14) rfl))) (mvT hZ (hw _ (List.mem_of_getElem? (i := 15) rfl))) (mvT hZ (hw _ (List.mem_of_getElem? (i := 16) rfl))) (by decide) (backOf (W := 1) (rm2 l Z a0 hw [] p1 h13 n0 Z13) hZ (hw _ (List.mem_of_getElem? (i := 16) rfl)) (hw _ (List.mem_of_getElem? (i := 15) rfl)) (by decide) (by decide)) (g := (mkF m 101 #[.val (.int p1), .val (.int p2), .val (.ref b1), .val (.int (own_at ((p2 &&& (2147483647 : Int32)) - ((p2 &&& (2147483647 : Int32)) / (12 : Int32)) * (12 : Int32)))), .val (.int ((((p2.toUInt32 >>> ((8 : Int32) &&& 31).toUInt32).toInt32) - (((p2.toUInt32 >>> ((8 : Int32) &&& 31).toUInt32).toInt32) / (3 : Int32)) * (3 : Int32)) - (1 : Int32))), .val (.int ((own_at ((p2 &&& (2147483647 : Int32)) - ((p2 &&& (2147483647 : Int32)) / (12 : Int32)) * (12 : Int32))) + ((((p2.toUInt32 >>> ((8 : Int32) &&& 31).toUInt32).toInt32) - (((p2.toUInt32 >>> ((8 : Int32) &&& 31).toUInt32).toInt32) / (3 : Int32)) * (3 : Int32)) - (1 : Int32)))), .unset, .unset] [(.int p1), (.int (v1 p1))])) rfl (by rw [hml]; rfl) (argsL := [(.int p1)]) (rest := [(.int (v1 p1))]) (lenOf pd_0 rfl) rfl (by show 2 * 0 + _ ≤ _; exact Nat.le_of_eq rfl) (hb hby at_101) (fun _ _ => ⟨rfl, e15, (by decide : 1 + 0 ≤ _), (by decide : 12 + 0 ≤ _)⟩)
  dsimp only [Pt.U, Pt.locs, Pt.cells, Pt.slots] at X16 l16 y16 z16 st16 hQ16
  subst l16 y16 z16
  obtain ⟨rfl, N16q, e16⟩ := hQ16
  have N16 := Fr.app N15 N16q
  have sg104_18 : ∀ t, Steps p.tables e below (T16.setTop (mkF m 112 #[.val (.int p1), .val (.int p2), .val (.ref b1), .val (.int (own_at ((p2 &&& (2147483647 : Int32)) - ((p2 &&& (2147483647 : Int32)) / (12 : Int32)) * (12 : Int32)))), .val (.int ((((p2.toUInt32 >>> ((8 : Int32) &&& 31).toUInt32).toInt32) - (((p2.toUInt32 >>> ((8 : Int32) &&& 31).toUInt32).toInt32) / (3 : Int32)) * (3 : Int32)) - (1 : Int32))), .val (.int ((own_at ((p2 &&& (2147483647 : Int32)) - ((p2 &&& (2147483647 : Int32)) / (12 : Int32)) * (12 : Int32))) + ((((p2.toUInt32 >>> ((8 : Int32) &&& 31).toUInt32).toInt32) - (((p2.toUInt32 >>> ((8 : Int32) &&& 31).toUInt32).toInt32) / (3 : Int32)) * (3 : Int32)) - (1 : Int32)))), .unset, .unset] [(.int (j0_112_s0 p1 p2))])) t → Steps p.tables e below (T16.setTop (mkF m 104 #[.val (.int p1), .val (.int p2), .val (.ref b1), .val (.int (own_at ((p2 &&& (2147483647 : Int32)) - ((p2 &&& (2147483647 : Int32)) / (12 : Int32)) * (12 : Int32)))), .val (.int ((((p2.toUInt32 >>> ((8 : Int32) &&& 31).toUInt32).toInt32) - (((p2.toUInt32 >>> ((8 : Int32) &&& 31).toUInt32).toInt32) / (3 : Int32)) * (3 : Int32)) - (1 : Int32))), .val (.int ((own_at ((p2 &&& (2147483647 : Int32)) - ((p2 &&& (2147483647 : Int32)) / (12 : Int32)) * (12 : Int32))) + ((((p2.toUInt32 >>> ((8 : Int32) &&& 31).toUInt32).toInt32) - (((p2.toUInt32 >>> ((8 : Int32) &&& 31).toUInt32).toInt32) / (3 : Int32)) * (3 : Int32)) - (1 : Int32)))), .unset, .unset] [(.int (v2 p1)), (.int (v1 p1))])) t := by
    intro t kt
    show Steps p.tables e below (T16.setTop (mkF m 104 #[.val (.int p1), .val (.int p2), .val (.ref b1), .val (.int (own_at ((p2 &&& (2147483647 : Int32)) - ((p2 &&& (2147483647 : Int32)) / (12 : Int32)) * (12 : Int32)))), .val (.int ((((p2.toUInt32 >>> ((8 : Int32) &&& 31).toUInt32).toInt32) - (((p2.toUInt32 >>> ((8 : Int32) &&& 31).toUInt32).toInt32) / (3 : Int32)) * (3 : Int32)) - (1 : Int32))), .val (.int ((own_at ((p2 &&& (2147483647 : Int32)) - ((p2 &&& (2147483647 : Int32)) / (12 : Int32)) * (12 : Int32))) + ((((p2.toUInt32 >>> ((8 : Int32) &&& 31).toUInt32).toInt32) - (((p2.toUInt32 >>> ((8 : Int32) &&& 31).toUInt32).toInt32) / (3 : Int32)) * (3 : Int32)) - (1 : Int32)))), .unset, .unset] [(.int (v2 p1)), (.int (v1 p1))])) _
    by_cases hc104_17 : (v1 p1) = (v2 p1)
    · refine XS.icmpNo X16.here hx rfl (hb hby at_104) rfl (teq hc104_17).2 ?_
      show Steps p.tables e below (T16.setTop (mkF m 107 #[.val (.int p1), .val (.int p2), .val (.ref b1), .val (.int (own_at ((p2 &&& (2147483647 : Int32)) - ((p2 &&& (2147483647 : Int32)) / (12 : Int32)) * (12 : Int32)))), .val (.int ((((p2.toUInt32 >>> ((8 : Int32) &&& 31).toUInt32).toInt32) - (((p2.toUInt32 >>> ((8 : Int32) &&& 31).toUInt32).toInt32) / (3 : Int32)) * (3 : Int32)) - (1 : Int32))), .val (.int ((own_at ((p2 &&& (2147483647 : Int32)) - ((p2 &&& (2147483647 : Int32)) / (12 : Int32)) * (12 : Int32))) + ((((p2.toUInt32 >>> ((8 : Int32) &&& 31).toUInt32).toInt32) - (((p2.toUInt32 >>> ((8 : Int32) &&& 31).toUInt32).toInt32) / (3 : Int32)) * (3 : Int32)) - (1 : Int32)))), .unset, .unset] [])) _
      refine XS.iconst X16.here hx rfl (hb hby at_107) ?_
      show Steps p.tables e below (T16.setTop (mkF m 108 #[.val (.int p1), .val (.int p2), .val (.ref b1), .val (.int (own_at ((p2 &&& (2147483647 : Int32)) - ((p2 &&& (2147483647 : Int32)) / (12 : Int32)) * (12 : Int32)))), .val (.int ((((p2.toUInt32 >>> ((8 : Int32) &&& 31).toUInt32).toInt32) - (((p2.toUInt32 >>> ((8 : Int32) &&& 31).toUInt32).toInt32) / (3 : Int32)) * (3 : Int32)) - (1 : Int32))), .val (.int ((own_at ((p2 &&& (2147483647 : Int32)) - ((p2 &&& (2147483647 : Int32)) / (12 : Int32)) * (12 : Int32))) + ((((p2.toUInt32 >>> ((8 : Int32) &&& 31).toUInt32).toInt32) - (((p2.toUInt32 >>> ((8 : Int32) &&& 31).toUInt32).toInt32) / (3 : Int32)) * (3 : Int32)) - (1 : Int32)))), .unset, .unset] [(.int (1 : Int32))])) _
      refine XS.goto X16.here hx rfl (pc0 := 108) (pc' := 112) rfl (hb hby at_108) (by decide) (by decide) ?_
      rw [show (j0_112_s0 p1 p2) = (1 : Int32) from (if_pos hc104_17)] at kt
      exact kt
    · refine XS.icmpYes X16.here hx rfl (pc0 := 104) (pc' := 111) rfl (hb hby at_104) rfl (feq hc104_17).2 (by decide) (by decide) ?_
      show Steps p.tables e below (T16.setTop (mkF m 111 #[.val (.int p1), .val (.int p2), .val (.ref b1), .val (.int (own_at ((p2 &&& (2147483647 : Int32)) - ((p2 &&& (2147483647 : Int32)) / (12 : Int32)) * (12 : Int32)))), .val (.int ((((p2.toUInt32 >>> ((8 : Int32) &&& 31).toUInt32).toInt32) - (((p2.toUInt32 >>> ((8 : Int32) &&& 31).toUInt32).toInt32) / (3 : Int32)) * (3 : Int32)) - (1 : Int32))), .val (.int ((own_at ((p2 &&& (2147483647 : Int32)) - ((p2 &&& (2147483647 : Int32)) / (12 : Int32)) * (12 : Int32))) + ((((p2.toUInt32 >>> ((8 : Int32) &&& 31).toUInt32).toInt32) - (((p2.toUInt32 >>> ((8 : Int32) &&& 31).toUInt32).toInt32) / (3 : Int32)) * (3 : Int32)) - (1 : Int32)))), .unset, .unset] [])) _
      refine XS.iconst X16.here hx rfl (hb hby at_111) ?_
      rw [show (j0_112_s0 p1 p2) = (0 : Int32) from (if_neg hc104_17)] at kt
      exact kt
  obtain ⟨_, _, ⟨T19, L19, k19, n19⟩, -, X19, ⟨Lc19, hQ19, l19, y19, z19⟩, st19⟩ := Jvm.LawKit.callS X16 hx (y := (⟨"com/example/paths_into_automata/pathsintoautomata/io/XmlNames", "isChar", "(I)Z"⟩ : MethodName)) hown (mvT hZ (hw _ (List.mem_of_getElem? (i := 9) rfl))) (mvT hZ (hw _ (List.mem_of_getElem? (i := 10) rfl))) (mvT hZ (hw _ (List.mem_of_getElem? (i := 11) rfl))) (mvT hZ (hw _ (List.mem_of_getElem? (i := 12) rfl))) (by decide) (backOf (W := 0) (rm1 l Z a0 hw [] ((own_at ((p2 &&& (2147483647 : Int32)) - ((p2 &&& (2147483647 : Int32)) / (12 : Int32)) * (12 : Int32))) + ((((p2.toUInt32 >>> ((8 : Int32) &&& 31).toUInt32).toInt32) - (((p2.toUInt32 >>> ((8 : Int32) &&& 31).toUInt32).toInt32) / (3 : Int32)) * (3 : Int32)) - (1 : Int32))) h13 n0 Z13) hZ (hw _ (List.mem_of_getElem? (i := 12) rfl)) (hw _ (List.mem_of_getElem? (i := 11) rfl)) (by decide) (by decide)) (g := (mkF m 116 #[.val (.int p1), .val (.int p2), .val (.ref b1), .val (.int (own_at ((p2 &&& (2147483647 : Int32)) - ((p2 &&& (2147483647 : Int32)) / (12 : Int32)) * (12 : Int32)))), .val (.int ((((p2.toUInt32 >>> ((8 : Int32) &&& 31).toUInt32).toInt32) - (((p2.toUInt32 >>> ((8 : Int32) &&& 31).toUInt32).toInt32) / (3 : Int32)) * (3 : Int32)) - (1 : Int32))), .val (.int ((own_at ((p2 &&& (2147483647 : Int32)) - ((p2 &&& (2147483647 : Int32)) / (12 : Int32)) * (12 : Int32))) + ((((p2.toUInt32 >>> ((8 : Int32) &&& 31).toUInt32).toInt32) - (((p2.toUInt32 >>> ((8 : Int32) &&& 31).toUInt32).toInt32) / (3 : Int32)) * (3 : Int32)) - (1 : Int32)))), .val (.int (j0_112_s0 p1 p2)), .unset] [(.int ((own_at ((p2 &&& (2147483647 : Int32)) - ((p2 &&& (2147483647 : Int32)) / (12 : Int32)) * (12 : Int32))) + ((((p2.toUInt32 >>> ((8 : Int32) &&& 31).toUInt32).toInt32) - (((p2.toUInt32 >>> ((8 : Int32) &&& 31).toUInt32).toInt32) / (3 : Int32)) * (3 : Int32)) - (1 : Int32))))])) rfl (by rw [hml]; rfl) (argsL := [(.int ((own_at ((p2 &&& (2147483647 : Int32)) - ((p2 &&& (2147483647 : Int32)) / (12 : Int32)) * (12 : Int32))) + ((((p2.toUInt32 >>> ((8 : Int32) &&& 31).toUInt32).toInt32) - (((p2.toUInt32 >>> ((8 : Int32) &&& 31).toUInt32).toInt32) / (3 : Int32)) * (3 : Int32)) - (1 : Int32))))]) (rest := []) (lenOf pd_0 rfl) rfl (by show 2 * 0 + _ ≤ _; exact Nat.le_of_eq rfl) (hb hby at_116) (fun _ _ => ⟨rfl, e16, (by decide : 1 + 0 ≤ _), (by decide : 12 + 0 ≤ _)⟩)
  dsimp only [Pt.U, Pt.locs, Pt.cells, Pt.slots] at X19 l19 y19 z19 st19 hQ19
  subst l19 y19 z19
  obtain ⟨rfl, N19q, e19⟩ := hQ19
  have N19 := Fr.app N16 N19q
  obtain ⟨_, _, ⟨T20, L20, k20, n20⟩, -, X20, ⟨Lc20, hQ20, l20, y20, z20⟩, st20⟩ := Jvm.LawKit.callS X19 hx (y := (⟨"com/example/paths_into_automata/pathsintoautomata/io/XmlNamesIsCharPinLaw", "expected", "(I)Z"⟩ : MethodName)) hown (mvT hZ (hw _ (List.mem_of_getElem? (i := 13) rfl))) (mvT hZ (hw _ (List.mem_of_getElem? (i := 14) rfl))) (mvT hZ (hw _ (List.mem_of_getElem? (i := 15) rfl))) (mvT hZ (hw _ (List.mem_of_getElem? (i := 16) rfl))) (by decide) (backOf (W := 1) (rm2 l Z a0 hw [] ((own_at ((p2 &&& (2147483647 : Int32)) - ((p2 &&& (2147483647 : Int32)) / (12 : Int32)) * (12 : Int32))) + ((((p2.toUInt32 >>> ((8 : Int32) &&& 31).toUInt32).toInt32) - (((p2.toUInt32 >>> ((8 : Int32) &&& 31).toUInt32).toInt32) / (3 : Int32)) * (3 : Int32)) - (1 : Int32))) h13 n0 Z13) hZ (hw _ (List.mem_of_getElem? (i := 16) rfl)) (hw _ (List.mem_of_getElem? (i := 15) rfl)) (by decide) (by decide)) (g := (mkF m 121 #[.val (.int p1), .val (.int p2), .val (.ref b1), .val (.int (own_at ((p2 &&& (2147483647 : Int32)) - ((p2 &&& (2147483647 : Int32)) / (12 : Int32)) * (12 : Int32)))), .val (.int ((((p2.toUInt32 >>> ((8 : Int32) &&& 31).toUInt32).toInt32) - (((p2.toUInt32 >>> ((8 : Int32) &&& 31).toUInt32).toInt32) / (3 : Int32)) * (3 : Int32)) - (1 : Int32))), .val (.int ((own_at ((p2 &&& (2147483647 : Int32)) - ((p2 &&& (2147483647 : Int32)) / (12 : Int32)) * (12 : Int32))) + ((((p2.toUInt32 >>> ((8 : Int32) &&& 31).toUInt32).toInt32) - (((p2.toUInt32 >>> ((8 : Int32) &&& 31).toUInt32).toInt32) / (3 : Int32)) * (3 : Int32)) - (1 : Int32)))), .val (.int (j0_112_s0 p1 p2)), .unset] [(.int ((own_at ((p2 &&& (2147483647 : Int32)) - ((p2 &&& (2147483647 : Int32)) / (12 : Int32)) * (12 : Int32))) + ((((p2.toUInt32 >>> ((8 : Int32) &&& 31).toUInt32).toInt32) - (((p2.toUInt32 >>> ((8 : Int32) &&& 31).toUInt32).toInt32) / (3 : Int32)) * (3 : Int32)) - (1 : Int32)))), (.int (v1 ((own_at ((p2 &&& (2147483647 : Int32)) - ((p2 &&& (2147483647 : Int32)) / (12 : Int32)) * (12 : Int32))) + ((((p2.toUInt32 >>> ((8 : Int32) &&& 31).toUInt32).toInt32) - (((p2.toUInt32 >>> ((8 : Int32) &&& 31).toUInt32).toInt32) / (3 : Int32)) * (3 : Int32)) - (1 : Int32)))))])) rfl (by rw [hml]; rfl) (argsL := [(.int ((own_at ((p2 &&& (2147483647 : Int32)) - ((p2 &&& (2147483647 : Int32)) / (12 : Int32)) * (12 : Int32))) + ((((p2.toUInt32 >>> ((8 : Int32) &&& 31).toUInt32).toInt32) - (((p2.toUInt32 >>> ((8 : Int32) &&& 31).toUInt32).toInt32) / (3 : Int32)) * (3 : Int32)) - (1 : Int32))))]) (rest := [(.int (v1 ((own_at ((p2 &&& (2147483647 : Int32)) - ((p2 &&& (2147483647 : Int32)) / (12 : Int32)) * (12 : Int32))) + ((((p2.toUInt32 >>> ((8 : Int32) &&& 31).toUInt32).toInt32) - (((p2.toUInt32 >>> ((8 : Int32) &&& 31).toUInt32).toInt32) / (3 : Int32)) * (3 : Int32)) - (1 : Int32)))))]) (lenOf pd_0 rfl) rfl (by show 2 * 0 + _ ≤ _; exact Nat.le_of_eq rfl) (hb hby at_121) (fun _ _ => ⟨rfl, e19, (by decide : 1 + 0 ≤ _), (by decide : 12 + 0 ≤ _)⟩)
  dsimp only [Pt.U, Pt.locs, Pt.cells, Pt.slots] at X20 l20 y20 z20 st20 hQ20
  subst l20 y20 z20
  obtain ⟨rfl, N20q, e20⟩ := hQ20
  have N20 := Fr.app N19 N20q
  have sg124_22 : ∀ t, Steps p.tables e below (T20.setTop (mkF m 132 #[.val (.int p1), .val (.int p2), .val (.ref b1), .val (.int (own_at ((p2 &&& (2147483647 : Int32)) - ((p2 &&& (2147483647 : Int32)) / (12 : Int32)) * (12 : Int32)))), .val (.int ((((p2.toUInt32 >>> ((8 : Int32) &&& 31).toUInt32).toInt32) - (((p2.toUInt32 >>> ((8 : Int32) &&& 31).toUInt32).toInt32) / (3 : Int32)) * (3 : Int32)) - (1 : Int32))), .val (.int ((own_at ((p2 &&& (2147483647 : Int32)) - ((p2 &&& (2147483647 : Int32)) / (12 : Int32)) * (12 : Int32))) + ((((p2.toUInt32 >>> ((8 : Int32) &&& 31).toUInt32).toInt32) - (((p2.toUInt32 >>> ((8 : Int32) &&& 31).toUInt32).toInt32) / (3 : Int32)) * (3 : Int32)) - (1 : Int32)))), .val (.int (j0_112_s0 p1 p2)), .unset] [(.int (j0_132_s0 p1 p2))])) t → Steps p.tables e below (T20.setTop (mkF m 124 #[.val (.int p1), .val (.int p2), .val (.ref b1), .val (.int (own_at ((p2 &&& (2147483647 : Int32)) - ((p2 &&& (2147483647 : Int32)) / (12 : Int32)) * (12 : Int32)))), .val (.int ((((p2.toUInt32 >>> ((8 : Int32) &&& 31).toUInt32).toInt32) - (((p2.toUInt32 >>> ((8 : Int32) &&& 31).toUInt32).toInt32) / (3 : Int32)) * (3 : Int32)) - (1 : Int32))), .val (.int ((own_at ((p2 &&& (2147483647 : Int32)) - ((p2 &&& (2147483647 : Int32)) / (12 : Int32)) * (12 : Int32))) + ((((p2.toUInt32 >>> ((8 : Int32) &&& 31).toUInt32).toInt32) - (((p2.toUInt32 >>> ((8 : Int32) &&& 31).toUInt32).toInt32) / (3 : Int32)) * (3 : Int32)) - (1 : Int32)))), .val (.int (j0_112_s0 p1 p2)), .unset] [(.int (v2 ((own_at ((p2 &&& (2147483647 : Int32)) - ((p2 &&& (2147483647 : Int32)) / (12 : Int32)) * (12 : Int32))) + ((((p2.toUInt32 >>> ((8 : Int32) &&& 31).toUInt32).toInt32) - (((p2.toUInt32 >>> ((8 : Int32) &&& 31).toUInt32).toInt32) / (3 : Int32)) * (3 : Int32)) - (1 : Int32))))), (.int (v1 ((own_at ((p2 &&& (2147483647 : Int32)) - ((p2 &&& (2147483647 : Int32)) / (12 : Int32)) * (12 : Int32))) + ((((p2.toUInt32 >>> ((8 : Int32) &&& 31).toUInt32).toInt32) - (((p2.toUInt32 >>> ((8 : Int32) &&& 31).toUInt32).toInt32) / (3 : Int32)) * (3 : Int32)) - (1 : Int32)))))])) t := by
    intro t kt
    show Steps p.tables e below (T20.setTop (mkF m 124 #[.val (.int p1), .val (.int p2), .val (.ref b1), .val (.int (own_at ((p2 &&& (2147483647 : Int32)) - ((p2 &&& (2147483647 : Int32)) / (12 : Int32)) * (12 : Int32)))), .val (.int ((((p2.toUInt32 >>> ((8 : Int32) &&& 31).toUInt32).toInt32) - (((p2.toUInt32 >>> ((8 : Int32) &&& 31).toUInt32).toInt32) / (3 : Int32)) * (3 : Int32)) - (1 : Int32))), .val (.int ((own_at ((p2 &&& (2147483647 : Int32)) - ((p2 &&& (2147483647 : Int32)) / (12 : Int32)) * (12 : Int32))) + ((((p2.toUInt32 >>> ((8 : Int32) &&& 31).toUInt32).toInt32) - (((p2.toUInt32 >>> ((8 : Int32) &&& 31).toUInt32).toInt32) / (3 : Int32)) * (3 : Int32)) - (1 : Int32)))), .val (.int (j0_112_s0 p1 p2)), .unset] [(.int (v2 ((own_at ((p2 &&& (2147483647 : Int32)) - ((p2 &&& (2147483647 : Int32)) / (12 : Int32)) * (12 : Int32))) + ((((p2.toUInt32 >>> ((8 : Int32) &&& 31).toUInt32).toInt32) - (((p2.toUInt32 >>> ((8 : Int32) &&& 31).toUInt32).toInt32) / (3 : Int32)) * (3 : Int32)) - (1 : Int32))))), (.int (v1 ((own_at ((p2 &&& (2147483647 : Int32)) - ((p2 &&& (2147483647 : Int32)) / (12 : Int32)) * (12 : Int32))) + ((((p2.toUInt32 >>> ((8 : Int32) &&& 31).toUInt32).toInt32) - (((p2.toUInt32 >>> ((8 : Int32) &&& 31).toUInt32).toInt32) / (3 : Int32)) * (3 : Int32)) - (1 : Int32)))))])) _
    by_cases hc124_21 : (v1 ((own_at ((p2 &&& (2147483647 : Int32)) - ((p2 &&& (2147483647 : Int32)) / (12 : Int32)) * (12 : Int32))) + ((((p2.toUInt32 >>> ((8 : Int32) &&& 31).toUInt32).toInt32) - (((p2.toUInt32 >>> ((8 : Int32) &&& 31).toUInt32).toInt32) / (3 : Int32)) * (3 : Int32)) - (1 : Int32)))) = (v2 ((own_at ((p2 &&& (2147483647 : Int32)) - ((p2 &&& (2147483647 : Int32)) / (12 : Int32)) * (12 : Int32))) + ((((p2.toUInt32 >>> ((8 : Int32) &&& 31).toUInt32).toInt32) - (((p2.toUInt32 >>> ((8 : Int32) &&& 31).toUInt32).toInt32) / (3 : Int32)) * (3 : Int32)) - (1 : Int32))))
    · refine XS.icmpNo X20.here hx rfl (hb hby at_124) rfl (teq hc124_21).2 ?_
      show Steps p.tables e below (T20.setTop (mkF m 127 #[.val (.int p1), .val (.int p2), .val (.ref b1), .val (.int (own_at ((p2 &&& (2147483647 : Int32)) - ((p2 &&& (2147483647 : Int32)) / (12 : Int32)) * (12 : Int32)))), .val (.int ((((p2.toUInt32 >>> ((8 : Int32) &&& 31).toUInt32).toInt32) - (((p2.toUInt32 >>> ((8 : Int32) &&& 31).toUInt32).toInt32) / (3 : Int32)) * (3 : Int32)) - (1 : Int32))), .val (.int ((own_at ((p2 &&& (2147483647 : Int32)) - ((p2 &&& (2147483647 : Int32)) / (12 : Int32)) * (12 : Int32))) + ((((p2.toUInt32 >>> ((8 : Int32) &&& 31).toUInt32).toInt32) - (((p2.toUInt32 >>> ((8 : Int32) &&& 31).toUInt32).toInt32) / (3 : Int32)) * (3 : Int32)) - (1 : Int32)))), .val (.int (j0_112_s0 p1 p2)), .unset] [])) _
      refine XS.iconst X20.here hx rfl (hb hby at_127) ?_
      show Steps p.tables e below (T20.setTop (mkF m 128 #[.val (.int p1), .val (.int p2), .val (.ref b1), .val (.int (own_at ((p2 &&& (2147483647 : Int32)) - ((p2 &&& (2147483647 : Int32)) / (12 : Int32)) * (12 : Int32)))), .val (.int ((((p2.toUInt32 >>> ((8 : Int32) &&& 31).toUInt32).toInt32) - (((p2.toUInt32 >>> ((8 : Int32) &&& 31).toUInt32).toInt32) / (3 : Int32)) * (3 : Int32)) - (1 : Int32))), .val (.int ((own_at ((p2 &&& (2147483647 : Int32)) - ((p2 &&& (2147483647 : Int32)) / (12 : Int32)) * (12 : Int32))) + ((((p2.toUInt32 >>> ((8 : Int32) &&& 31).toUInt32).toInt32) - (((p2.toUInt32 >>> ((8 : Int32) &&& 31).toUInt32).toInt32) / (3 : Int32)) * (3 : Int32)) - (1 : Int32)))), .val (.int (j0_112_s0 p1 p2)), .unset] [(.int (1 : Int32))])) _
      refine XS.goto X20.here hx rfl (pc0 := 128) (pc' := 132) rfl (hb hby at_128) (by decide) (by decide) ?_
      rw [show (j0_132_s0 p1 p2) = (1 : Int32) from (if_pos hc124_21)] at kt
      exact kt
    · refine XS.icmpYes X20.here hx rfl (pc0 := 124) (pc' := 131) rfl (hb hby at_124) rfl (feq hc124_21).2 (by decide) (by decide) ?_
      show Steps p.tables e below (T20.setTop (mkF m 131 #[.val (.int p1), .val (.int p2), .val (.ref b1), .val (.int (own_at ((p2 &&& (2147483647 : Int32)) - ((p2 &&& (2147483647 : Int32)) / (12 : Int32)) * (12 : Int32)))), .val (.int ((((p2.toUInt32 >>> ((8 : Int32) &&& 31).toUInt32).toInt32) - (((p2.toUInt32 >>> ((8 : Int32) &&& 31).toUInt32).toInt32) / (3 : Int32)) * (3 : Int32)) - (1 : Int32))), .val (.int ((own_at ((p2 &&& (2147483647 : Int32)) - ((p2 &&& (2147483647 : Int32)) / (12 : Int32)) * (12 : Int32))) + ((((p2.toUInt32 >>> ((8 : Int32) &&& 31).toUInt32).toInt32) - (((p2.toUInt32 >>> ((8 : Int32) &&& 31).toUInt32).toInt32) / (3 : Int32)) * (3 : Int32)) - (1 : Int32)))), .val (.int (j0_112_s0 p1 p2)), .unset] [])) _
      refine XS.iconst X20.here hx rfl (hb hby at_131) ?_
      rw [show (j0_132_s0 p1 p2) = (0 : Int32) from (if_neg hc124_21)] at kt
      exact kt
  have sg134_25 : ∀ t, Steps p.tables e below (T20.setTop (mkF m 149 #[.val (.int p1), .val (.int p2), .val (.ref b1), .val (.int (own_at ((p2 &&& (2147483647 : Int32)) - ((p2 &&& (2147483647 : Int32)) / (12 : Int32)) * (12 : Int32)))), .val (.int ((((p2.toUInt32 >>> ((8 : Int32) &&& 31).toUInt32).toInt32) - (((p2.toUInt32 >>> ((8 : Int32) &&& 31).toUInt32).toInt32) / (3 : Int32)) * (3 : Int32)) - (1 : Int32))), .val (.int ((own_at ((p2 &&& (2147483647 : Int32)) - ((p2 &&& (2147483647 : Int32)) / (12 : Int32)) * (12 : Int32))) + ((((p2.toUInt32 >>> ((8 : Int32) &&& 31).toUInt32).toInt32) - (((p2.toUInt32 >>> ((8 : Int32) &&& 31).toUInt32).toInt32) / (3 : Int32)) * (3 : Int32)) - (1 : Int32)))), .val (.int (j0_112_s0 p1 p2)), .val (.int (j0_132_s0 p1 p2))] [(.int (j0_149_s0 p1 p2))])) t → Steps p.tables e below (T20.setTop (mkF m 134 #[.val (.int p1), .val (.int p2), .val (.ref b1), .val (.int (own_at ((p2 &&& (2147483647 : Int32)) - ((p2 &&& (2147483647 : Int32)) / (12 : Int32)) * (12 : Int32)))), .val (.int ((((p2.toUInt32 >>> ((8 : Int32) &&& 31).toUInt32).toInt32) - (((p2.toUInt32 >>> ((8 : Int32) &&& 31).toUInt32).toInt32) / (3 : Int32)) * (3 : Int32)) - (1 : Int32))), .val (.int ((own_at ((p2 &&& (2147483647 : Int32)) - ((p2 &&& (2147483647 : Int32)) / (12 : Int32)) * (12 : Int32))) + ((((p2.toUInt32 >>> ((8 : Int32) &&& 31).toUInt32).toInt32) - (((p2.toUInt32 >>> ((8 : Int32) &&& 31).toUInt32).toInt32) / (3 : Int32)) * (3 : Int32)) - (1 : Int32)))), .val (.int (j0_112_s0 p1 p2)), .val (.int (j0_132_s0 p1 p2))] [])) t := by
    intro t kt
    show Steps p.tables e below (T20.setTop (mkF m 134 #[.val (.int p1), .val (.int p2), .val (.ref b1), .val (.int (own_at ((p2 &&& (2147483647 : Int32)) - ((p2 &&& (2147483647 : Int32)) / (12 : Int32)) * (12 : Int32)))), .val (.int ((((p2.toUInt32 >>> ((8 : Int32) &&& 31).toUInt32).toInt32) - (((p2.toUInt32 >>> ((8 : Int32) &&& 31).toUInt32).toInt32) / (3 : Int32)) * (3 : Int32)) - (1 : Int32))), .val (.int ((own_at ((p2 &&& (2147483647 : Int32)) - ((p2 &&& (2147483647 : Int32)) / (12 : Int32)) * (12 : Int32))) + ((((p2.toUInt32 >>> ((8 : Int32) &&& 31).toUInt32).toInt32) - (((p2.toUInt32 >>> ((8 : Int32) &&& 31).toUInt32).toInt32) / (3 : Int32)) * (3 : Int32)) - (1 : Int32)))), .val (.int (j0_112_s0 p1 p2)), .val (.int (j0_132_s0 p1 p2))] [])) _
    refine XS.iload X20.here hx rfl (hb hby at_134) rfl ?_
    show Steps p.tables e below (T20.setTop (mkF m 136 #[.val (.int p1), .val (.int p2), .val (.ref b1), .val (.int (own_at ((p2 &&& (2147483647 : Int32)) - ((p2 &&& (2147483647 : Int32)) / (12 : Int32)) * (12 : Int32)))), .val (.int ((((p2.toUInt32 >>> ((8 : Int32) &&& 31).toUInt32).toInt32) - (((p2.toUInt32 >>> ((8 : Int32) &&& 31).toUInt32).toInt32) / (3 : Int32)) * (3 : Int32)) - (1 : Int32))), .val (.int ((own_at ((p2 &&& (2147483647 : Int32)) - ((p2 &&& (2147483647 : Int32)) / (12 : Int32)) * (12 : Int32))) + ((((p2.toUInt32 >>> ((8 : Int32) &&& 31).toUInt32).toInt32) - (((p2.toUInt32 >>> ((8 : Int32) &&& 31).toUInt32).toInt32) / (3 : Int32)) * (3 : Int32)) - (1 : Int32)))), .val (.int (j0_112_s0 p1 p2)), .val (.int (j0_132_s0 p1 p2))] [(.int (j0_112_s0 p1 p2))])) _
    by_cases hc136_23 : (j0_112_s0 p1 p2) = (0 : Int32)
    · refine XS.ifYes X20.here hx rfl (pc0 := 136) (pc' := 148) rfl (hb hby at_136) rfl ((if0 _ _).trans (teq hc136_23).1) (by decide) (by decide) ?_
      show Steps p.tables e below (T20.setTop (mkF m 148 #[.val (.int p1), .val (.int p2), .val (.ref b1), .val (.int (own_at ((p2 &&& (2147483647 : Int32)) - ((p2 &&& (2147483647 : Int32)) / (12 : Int32)) * (12 : Int32)))), .val (.int ((((p2.toUInt32 >>> ((8 : Int32) &&& 31).toUInt32).toInt32) - (((p2.toUInt32 >>> ((8 : Int32) &&& 31).toUInt32).toInt32) / (3 : Int32)) * (3 : Int32)) - (1 : Int32))), .val (.int ((own_at ((p2 &&& (2147483647 : Int32)) - ((p2 &&& (2147483647 : Int32)) / (12 : Int32)) * (12 : Int32))) + ((((p2.toUInt32 >>> ((8 : Int32) &&& 31).toUInt32).toInt32) - (((p2.toUInt32 >>> ((8 : Int32) &&& 31).toUInt32).toInt32) / (3 : Int32)) * (3 : Int32)) - (1 : Int32)))), .val (.int (j0_112_s0 p1 p2)), .val (.int (j0_132_s0 p1 p2))] [])) _
      refine XS.iconst X20.here hx rfl (hb hby at_148) ?_
      rw [show (j0_149_s0 p1 p2) = (0 : Int32) from (if_pos hc136_23)] at kt
      exact kt
    · refine XS.ifNo X20.here hx rfl (hb hby at_136) rfl ((if0 _ _).trans (feq hc136_23).1) ?_
      show Steps p.tables e below (T20.setTop (mkF m 139 #[.val (.int p1), .val (.int p2), .val (.ref b1), .val (.int (own_at ((p2 &&& (2147483647 : Int32)) - ((p2 &&& (2147483647 : Int32)) / (12 : Int32)) * (12 : Int32)))), .val (.int ((((p2.toUInt32 >>> ((8 : Int32) &&& 31).toUInt32).toInt32) - (((p2.toUInt32 >>> ((8 : Int32) &&& 31).toUInt32).toInt32) / (3 : Int32)) * (3 : Int32)) - (1 : Int32))), .val (.int ((own_at ((p2 &&& (2147483647 : Int32)) - ((p2 &&& (2147483647 : Int32)) / (12 : Int32)) * (12 : Int32))) + ((((p2.toUInt32 >>> ((8 : Int32) &&& 31).toUInt32).toInt32) - (((p2.toUInt32 >>> ((8 : Int32) &&& 31).toUInt32).toInt32) / (3 : Int32)) * (3 : Int32)) - (1 : Int32)))), .val (.int (j0_112_s0 p1 p2)), .val (.int (j0_132_s0 p1 p2))] [])) _
      refine XS.iload X20.here hx rfl (hb hby at_139) rfl ?_
      show Steps p.tables e below (T20.setTop (mkF m 141 #[.val (.int p1), .val (.int p2), .val (.ref b1), .val (.int (own_at ((p2 &&& (2147483647 : Int32)) - ((p2 &&& (2147483647 : Int32)) / (12 : Int32)) * (12 : Int32)))), .val (.int ((((p2.toUInt32 >>> ((8 : Int32) &&& 31).toUInt32).toInt32) - (((p2.toUInt32 >>> ((8 : Int32) &&& 31).toUInt32).toInt32) / (3 : Int32)) * (3 : Int32)) - (1 : Int32))), .val (.int ((own_at ((p2 &&& (2147483647 : Int32)) - ((p2 &&& (2147483647 : Int32)) / (12 : Int32)) * (12 : Int32))) + ((((p2.toUInt32 >>> ((8 : Int32) &&& 31).toUInt32).toInt32) - (((p2.toUInt32 >>> ((8 : Int32) &&& 31).toUInt32).toInt32) / (3 : Int32)) * (3 : Int32)) - (1 : Int32)))), .val (.int (j0_112_s0 p1 p2)), .val (.int (j0_132_s0 p1 p2))] [(.int (j0_132_s0 p1 p2))])) _
      by_cases hc141_24 : (j0_132_s0 p1 p2) = (0 : Int32)
      · refine XS.ifYes X20.here hx rfl (pc0 := 141) (pc' := 148) rfl (hb hby at_141) rfl ((if0 _ _).trans (teq hc141_24).1) (by decide) (by decide) ?_
        show Steps p.tables e below (T20.setTop (mkF m 148 #[.val (.int p1), .val (.int p2), .val (.ref b1), .val (.int (own_at ((p2 &&& (2147483647 : Int32)) - ((p2 &&& (2147483647 : Int32)) / (12 : Int32)) * (12 : Int32)))), .val (.int ((((p2.toUInt32 >>> ((8 : Int32) &&& 31).toUInt32).toInt32) - (((p2.toUInt32 >>> ((8 : Int32) &&& 31).toUInt32).toInt32) / (3 : Int32)) * (3 : Int32)) - (1 : Int32))), .val (.int ((own_at ((p2 &&& (2147483647 : Int32)) - ((p2 &&& (2147483647 : Int32)) / (12 : Int32)) * (12 : Int32))) + ((((p2.toUInt32 >>> ((8 : Int32) &&& 31).toUInt32).toInt32) - (((p2.toUInt32 >>> ((8 : Int32) &&& 31).toUInt32).toInt32) / (3 : Int32)) * (3 : Int32)) - (1 : Int32)))), .val (.int (j0_112_s0 p1 p2)), .val (.int (j0_132_s0 p1 p2))] [])) _
        refine XS.iconst X20.here hx rfl (hb hby at_148) ?_
        rw [show (j0_149_s0 p1 p2) = (0 : Int32) from ((if_neg hc136_23).trans (if_pos hc141_24))] at kt
        exact kt
      · refine XS.ifNo X20.here hx rfl (hb hby at_141) rfl ((if0 _ _).trans (feq hc141_24).1) ?_
        show Steps p.tables e below (T20.setTop (mkF m 144 #[.val (.int p1), .val (.int p2), .val (.ref b1), .val (.int (own_at ((p2 &&& (2147483647 : Int32)) - ((p2 &&& (2147483647 : Int32)) / (12 : Int32)) * (12 : Int32)))), .val (.int ((((p2.toUInt32 >>> ((8 : Int32) &&& 31).toUInt32).toInt32) - (((p2.toUInt32 >>> ((8 : Int32) &&& 31).toUInt32).toInt32) / (3 : Int32)) * (3 : Int32)) - (1 : Int32))), .val (.int ((own_at ((p2 &&& (2147483647 : Int32)) - ((p2 &&& (2147483647 : Int32)) / (12 : Int32)) * (12 : Int32))) + ((((p2.toUInt32 >>> ((8 : Int32) &&& 31).toUInt32).toInt32) - (((p2.toUInt32 >>> ((8 : Int32) &&& 31).toUInt32).toInt32) / (3 : Int32)) * (3 : Int32)) - (1 : Int32)))), .val (.int (j0_112_s0 p1 p2)), .val (.int (j0_132_s0 p1 p2))] [])) _
        refine XS.iconst X20.here hx rfl (hb hby at_144) ?_
        show Steps p.tables e below (T20.setTop (mkF m 145 #[.val (.int p1), .val (.int p2), .val (.ref b1), .val (.int (own_at ((p2 &&& (2147483647 : Int32)) - ((p2 &&& (2147483647 : Int32)) / (12 : Int32)) * (12 : Int32)))), .val (.int ((((p2.toUInt32 >>> ((8 : Int32) &&& 31).toUInt32).toInt32) - (((p2.toUInt32 >>> ((8 : Int32) &&& 31).toUInt32).toInt32) / (3 : Int32)) * (3 : Int32)) - (1 : Int32))), .val (.int ((own_at ((p2 &&& (2147483647 : Int32)) - ((p2 &&& (2147483647 : Int32)) / (12 : Int32)) * (12 : Int32))) + ((((p2.toUInt32 >>> ((8 : Int32) &&& 31).toUInt32).toInt32) - (((p2.toUInt32 >>> ((8 : Int32) &&& 31).toUInt32).toInt32) / (3 : Int32)) * (3 : Int32)) - (1 : Int32)))), .val (.int (j0_112_s0 p1 p2)), .val (.int (j0_132_s0 p1 p2))] [(.int (1 : Int32))])) _
        refine XS.goto X20.here hx rfl (pc0 := 145) (pc' := 149) rfl (hb hby at_145) (by decide) (by decide) ?_
        rw [show (j0_149_s0 p1 p2) = (1 : Int32) from ((if_neg hc136_23).trans (if_neg hc141_24))] at kt
        exact kt
  have hnar : nar .boolean (j0_149_s0 p1 p2) = (j0_149_s0 p1 p2) := by
    unfold j0_149_s0
    repeat' split
    all_goals rfl
  obtain ⟨fs, hr, hrun, hended, hW, hsame⟩ := X20.leave (v := some (.int (j0_149_s0 p1 p2))) (fun h => by rw [Bd.returns] at h; cases h)
  refine ⟨_, _, pre0 _ ?_, hrun, hended, _, _, rfl, ?_, ⟨_, rfl⟩, hW, hsame.mono (by decide) (by decide)⟩
  · show Steps p.tables e below (s₁.setTop (mkF m 0 #[.val (.int p1), .val (.int p2), .unset, .unset, .unset, .unset, .unset, .unset] [])) _
    refine XS.bipush X0.here hx rfl (hb hby at_0) ?_
    show Steps p.tables e below (s₁.setTop (mkF m 2 #[.val (.int p1), .val (.int p2), .unset, .unset, .unset, .unset, .unset, .unset] [(.int (12 : Int32))])) _
    refine st1 _ ?_
    show Steps p.tables e below (T1.setTop (mkF m 4 #[.val (.int p1), .val (.int p2), .unset, .unset, .unset, .unset, .unset, .unset] [(.ref b1)])) _
    refine XS.dup X1.here hx rfl (hb hby at_4) rfl rfl ?_
    show Steps p.tables e below (T1.setTop (mkF m 5 #[.val (.int p1), .val (.int p2), .unset, .unset, .unset, .unset, .unset, .unset] [(.ref b1), (.ref b1)])) _
    refine XS.iconst X1.here hx rfl (hb hby at_5) ?_
    show Steps p.tables e below (T1.setTop (mkF m 6 #[.val (.int p1), .val (.int p2), .unset, .unset, .unset, .unset, .unset, .unset] [(.int (0 : Int32)), (.ref b1), (.ref b1)])) _
    refine XS.iconst X1.here hx rfl (hb hby at_6) ?_
    show Steps p.tables e below (T1.setTop (mkF m 7 #[.val (.int p1), .val (.int p2), .unset, .unset, .unset, .unset, .unset, .unset] [(.int (0 : Int32)), (.int (0 : Int32)), (.ref b1), (.ref b1)])) _
    refine st2 _ ?_
    show Steps p.tables e below (T2.setTop (mkF m 8 #[.val (.int p1), .val (.int p2), .unset, .unset, .unset, .unset, .unset, .unset] [(.ref b1)])) _
    refine XS.dup X2.here hx rfl (hb hby at_8) rfl rfl ?_
    show Steps p.tables e below (T2.setTop (mkF m 9 #[.val (.int p1), .val (.int p2), .unset, .unset, .unset, .unset, .unset, .unset] [(.ref b1), (.ref b1)])) _
    refine XS.iconst X2.here hx rfl (hb hby at_9) ?_
    show Steps p.tables e below (T2.setTop (mkF m 10 #[.val (.int p1), .val (.int p2), .unset, .unset, .unset, .unset, .unset, .unset] [(.int (1 : Int32)), (.ref b1), (.ref b1)])) _
    refine XS.bipush X2.here hx rfl (hb hby at_10) ?_
    show Steps p.tables e below (T2.setTop (mkF m 12 #[.val (.int p1), .val (.int p2), .unset, .unset, .unset, .unset, .unset, .unset] [(.int (9 : Int32)), (.int (1 : Int32)), (.ref b1), (.ref b1)])) _
    refine st3 _ ?_
    show Steps p.tables e below (T3.setTop (mkF m 13 #[.val (.int p1), .val (.int p2), .unset, .unset, .unset, .unset, .unset, .unset] [(.ref b1)])) _
    refine XS.dup X3.here hx rfl (hb hby at_13) rfl rfl ?_
    show Steps p.tables e below (T3.setTop (mkF m 14 #[.val (.int p1), .val (.int p2), .unset, .unset, .unset, .unset, .unset, .unset] [(.ref b1), (.ref b1)])) _
    refine XS.iconst X3.here hx rfl (hb hby at_14) ?_
    show Steps p.tables e below (T3.setTop (mkF m 15 #[.val (.int p1), .val (.int p2), .unset, .unset, .unset, .unset, .unset, .unset] [(.int (2 : Int32)), (.ref b1), (.ref b1)])) _
    refine XS.bipush X3.here hx rfl (hb hby at_15) ?_
    show Steps p.tables e below (T3.setTop (mkF m 17 #[.val (.int p1), .val (.int p2), .unset, .unset, .unset, .unset, .unset, .unset] [(.int (10 : Int32)), (.int (2 : Int32)), (.ref b1), (.ref b1)])) _
    refine st4 _ ?_
    show Steps p.tables e below (T4.setTop (mkF m 18 #[.val (.int p1), .val (.int p2), .unset, .unset, .unset, .unset, .unset, .unset] [(.ref b1)])) _
    refine XS.dup X4.here hx rfl (hb hby at_18) rfl rfl ?_
    show Steps p.tables e below (T4.setTop (mkF m 19 #[.val (.int p1), .val (.int p2), .unset, .unset, .unset, .unset, .unset, .unset] [(.ref b1), (.ref b1)])) _
    refine XS.iconst X4.here hx rfl (hb hby at_19) ?_
    show Steps p.tables e below (T4.setTop (mkF m 20 #[.val (.int p1), .val (.int p2), .unset, .unset, .unset, .unset, .unset, .unset] [(.int (3 : Int32)), (.ref b1), (.ref b1)])) _
    refine XS.bipush X4.here hx rfl (hb hby at_20) ?_
    show Steps p.tables e below (T4.setTop (mkF m 22 #[.val (.int p1), .val (.int p2), .unset, .unset, .unset, .unset, .unset, .unset] [(.int (13 : Int32)), (.int (3 : Int32)), (.ref b1), (.ref b1)])) _
    refine st5 _ ?_
    show Steps p.tables e below (T5.setTop (mkF m 23 #[.val (.int p1), .val (.int p2), .unset, .unset, .unset, .unset, .unset, .unset] [(.ref b1)])) _
    refine XS.dup X5.here hx rfl (hb hby at_23) rfl rfl ?_
    show Steps p.tables e below (T5.setTop (mkF m 24 #[.val (.int p1), .val (.int p2), .unset, .unset, .unset, .unset, .unset, .unset] [(.ref b1), (.ref b1)])) _
    refine XS.iconst X5.here hx rfl (hb hby at_24) ?_
    show Steps p.tables e below (T5.setTop (mkF m 25 #[.val (.int p1), .val (.int p2), .unset, .unset, .unset, .unset, .unset, .unset] [(.int (4 : Int32)), (.ref b1), (.ref b1)])) _
    refine XS.bipush X5.here hx rfl (hb hby at_25) ?_
    show Steps p.tables e below (T5.setTop (mkF m 27 #[.val (.int p1), .val (.int p2), .unset, .unset, .unset, .unset, .unset, .unset] [(.int (32 : Int32)), (.int (4 : Int32)), (.ref b1), (.ref b1)])) _
    refine st6 _ ?_
    show Steps p.tables e below (T6.setTop (mkF m 28 #[.val (.int p1), .val (.int p2), .unset, .unset, .unset, .unset, .unset, .unset] [(.ref b1)])) _
    refine XS.dup X6.here hx rfl (hb hby at_28) rfl rfl ?_
    show Steps p.tables e below (T6.setTop (mkF m 29 #[.val (.int p1), .val (.int p2), .unset, .unset, .unset, .unset, .unset, .unset] [(.ref b1), (.ref b1)])) _
    refine XS.iconst X6.here hx rfl (hb hby at_29) ?_
    show Steps p.tables e below (T6.setTop (mkF m 30 #[.val (.int p1), .val (.int p2), .unset, .unset, .unset, .unset, .unset, .unset] [(.int (5 : Int32)), (.ref b1), (.ref b1)])) _
    refine X6.ldcInt hx hown (mvT hZ (hw _ (List.mem_of_getElem? (i := 1) rfl))) (g := (mkF m 30 #[.val (.int p1), .val (.int p2), .unset, .unset, .unset, .unset, .unset, .unset] [(.int (5 : Int32)), (.ref b1), (.ref b1)])) rfl (hb hby at_30) _ ?_
    show Steps p.tables e below (T6.setTop (mkF m 32 #[.val (.int p1), .val (.int p2), .unset, .unset, .unset, .unset, .unset, .unset] [(.int (55295 : Int32)), (.int (5 : Int32)), (.ref b1), (.ref b1)])) _
    refine st7 _ ?_
    show Steps p.tables e below (T7.setTop (mkF m 33 #[.val (.int p1), .val (.int p2), .unset, .unset, .unset, .unset, .unset, .unset] [(.ref b1)])) _
    refine XS.dup X7.here hx rfl (hb hby at_33) rfl rfl ?_
    show Steps p.tables e below (T7.setTop (mkF m 34 #[.val (.int p1), .val (.int p2), .unset, .unset, .unset, .unset, .unset, .unset] [(.ref b1), (.ref b1)])) _
    refine XS.bipush X7.here hx rfl (hb hby at_34) ?_
    show Steps p.tables e below (T7.setTop (mkF m 36 #[.val (.int p1), .val (.int p2), .unset, .unset, .unset, .unset, .unset, .unset] [(.int (6 : Int32)), (.ref b1), (.ref b1)])) _
    refine X7.ldcInt hx hown (mvT hZ (hw _ (List.mem_of_getElem? (i := 2) rfl))) (g := (mkF m 36 #[.val (.int p1), .val (.int p2), .unset, .unset, .unset, .unset, .unset, .unset] [(.int (6 : Int32)), (.ref b1), (.ref b1)])) rfl (hb hby at_36) _ ?_
    show Steps p.tables e below (T7.setTop (mkF m 38 #[.val (.int p1), .val (.int p2), .unset, .unset, .unset, .unset, .unset, .unset] [(.int (57344 : Int32)), (.int (6 : Int32)), (.ref b1), (.ref b1)])) _
    refine st8 _ ?_
    show Steps p.tables e below (T8.setTop (mkF m 39 #[.val (.int p1), .val (.int p2), .unset, .unset, .unset, .unset, .unset, .unset] [(.ref b1)])) _
    refine XS.dup X8.here hx rfl (hb hby at_39) rfl rfl ?_
    show Steps p.tables e below (T8.setTop (mkF m 40 #[.val (.int p1), .val (.int p2), .unset, .unset, .unset, .unset, .unset, .unset] [(.ref b1), (.ref b1)])) _
    refine XS.bipush X8.here hx rfl (hb hby at_40) ?_
    show Steps p.tables e below (T8.setTop (mkF m 42 #[.val (.int p1), .val (.int p2), .unset, .unset, .unset, .unset, .unset, .unset] [(.int (7 : Int32)), (.ref b1), (.ref b1)])) _
    refine X8.ldcInt hx hown (mvT hZ (hw _ (List.mem_of_getElem? (i := 3) rfl))) (g := (mkF m 42 #[.val (.int p1), .val (.int p2), .unset, .unset, .unset, .unset, .unset, .unset] [(.int (7 : Int32)), (.ref b1), (.ref b1)])) rfl (hb hby at_42) _ ?_
    show Steps p.tables e below (T8.setTop (mkF m 44 #[.val (.int p1), .val (.int p2), .unset, .unset, .unset, .unset, .unset, .unset] [(.int (65533 : Int32)), (.int (7 : Int32)), (.ref b1), (.ref b1)])) _
    refine st9 _ ?_
    show Steps p.tables e below (T9.setTop (mkF m 45 #[.val (.int p1), .val (.int p2), .unset, .unset, .unset, .unset, .unset, .unset] [(.ref b1)])) _
    refine XS.dup X9.here hx rfl (hb hby at_45) rfl rfl ?_
    show Steps p.tables e below (T9.setTop (mkF m 46 #[.val (.int p1), .val (.int p2), .unset, .unset, .unset, .unset, .unset, .unset] [(.ref b1), (.ref b1)])) _
    refine XS.bipush X9.here hx rfl (hb hby at_46) ?_
    show Steps p.tables e below (T9.setTop (mkF m 48 #[.val (.int p1), .val (.int p2), .unset, .unset, .unset, .unset, .unset, .unset] [(.int (8 : Int32)), (.ref b1), (.ref b1)])) _
    refine X9.ldcInt hx hown (mvT hZ (hw _ (List.mem_of_getElem? (i := 4) rfl))) (g := (mkF m 48 #[.val (.int p1), .val (.int p2), .unset, .unset, .unset, .unset, .unset, .unset] [(.int (8 : Int32)), (.ref b1), (.ref b1)])) rfl (hb hby at_48) _ ?_
    show Steps p.tables e below (T9.setTop (mkF m 50 #[.val (.int p1), .val (.int p2), .unset, .unset, .unset, .unset, .unset, .unset] [(.int (65535 : Int32)), (.int (8 : Int32)), (.ref b1), (.ref b1)])) _
    refine st10 _ ?_
    show Steps p.tables e below (T10.setTop (mkF m 51 #[.val (.int p1), .val (.int p2), .unset, .unset, .unset, .unset, .unset, .unset] [(.ref b1)])) _
    refine XS.dup X10.here hx rfl (hb hby at_51) rfl rfl ?_
    show Steps p.tables e below (T10.setTop (mkF m 52 #[.val (.int p1), .val (.int p2), .unset, .unset, .unset, .unset, .unset, .unset] [(.ref b1), (.ref b1)])) _
    refine XS.bipush X10.here hx rfl (hb hby at_52) ?_
    show Steps p.tables e below (T10.setTop (mkF m 54 #[.val (.int p1), .val (.int p2), .unset, .unset, .unset, .unset, .unset, .unset] [(.int (9 : Int32)), (.ref b1), (.ref b1)])) _
    refine X10.ldcInt hx hown (mvT hZ (hw _ (List.mem_of_getElem? (i := 5) rfl))) (g := (mkF m 54 #[.val (.int p1), .val (.int p2), .unset, .unset, .unset, .unset, .unset, .unset] [(.int (9 : Int32)), (.ref b1), (.ref b1)])) rfl (hb hby at_54) _ ?_
    show Steps p.tables e below (T10.setTop (mkF m 56 #[.val (.int p1), .val (.int p2), .unset, .unset, .unset, .unset, .unset, .unset] [(.int (65536 : Int32)), (.int (9 : Int32)), (.ref b1), (.ref b1)])) _
    refine st11 _ ?_
    show Steps p.tables e below (T11.setTop (mkF m 57 #[.val (.int p1), .val (.int p2), .unset, .unset, .unset, .unset, .unset, .unset] [(.ref b1)])) _
    refine XS.dup X11.here hx rfl (hb hby at_57) rfl rfl ?_
    show Steps p.tables e below (T11.setTop (mkF m 58 #[.val (.int p1), .val (.int p2), .unset, .unset, .unset, .unset, .unset, .unset] [(.ref b1), (.ref b1)])) _
    refine XS.bipush X11.here hx rfl (hb hby at_58) ?_
    show Steps p.tables e below (T11.setTop (mkF m 60 #[.val (.int p1), .val (.int p2), .unset, .unset, .unset, .unset, .unset, .unset] [(.int (10 : Int32)), (.ref b1), (.ref b1)])) _
    refine X11.ldcInt hx hown (mvT hZ (hw _ (List.mem_of_getElem? (i := 6) rfl))) (g := (mkF m 60 #[.val (.int p1), .val (.int p2), .unset, .unset, .unset, .unset, .unset, .unset] [(.int (10 : Int32)), (.ref b1), (.ref b1)])) rfl (hb hby at_60) _ ?_
    show Steps p.tables e below (T11.setTop (mkF m 62 #[.val (.int p1), .val (.int p2), .unset, .unset, .unset, .unset, .unset, .unset] [(.int (1114111 : Int32)), (.int (10 : Int32)), (.ref b1), (.ref b1)])) _
    refine st12 _ ?_
    show Steps p.tables e below (T12.setTop (mkF m 63 #[.val (.int p1), .val (.int p2), .unset, .unset, .unset, .unset, .unset, .unset] [(.ref b1)])) _
    refine XS.dup X12.here hx rfl (hb hby at_63) rfl rfl ?_
    show Steps p.tables e below (T12.setTop (mkF m 64 #[.val (.int p1), .val (.int p2), .unset, .unset, .unset, .unset, .unset, .unset] [(.ref b1), (.ref b1)])) _
    refine XS.bipush X12.here hx rfl (hb hby at_64) ?_
    show Steps p.tables e below (T12.setTop (mkF m 66 #[.val (.int p1), .val (.int p2), .unset, .unset, .unset, .unset, .unset, .unset] [(.int (11 : Int32)), (.ref b1), (.ref b1)])) _
    refine X12.ldcInt hx hown (mvT hZ (hw _ (List.mem_of_getElem? (i := 7) rfl))) (g := (mkF m 66 #[.val (.int p1), .val (.int p2), .unset, .unset, .unset, .unset, .unset, .unset] [(.int (11 : Int32)), (.ref b1), (.ref b1)])) rfl (hb hby at_66) _ ?_
    show Steps p.tables e below (T12.setTop (mkF m 68 #[.val (.int p1), .val (.int p2), .unset, .unset, .unset, .unset, .unset, .unset] [(.int (-2147483648 : Int32)), (.int (11 : Int32)), (.ref b1), (.ref b1)])) _
    refine st13 _ ?_
    show Steps p.tables e below (T13.setTop (mkF m 69 #[.val (.int p1), .val (.int p2), .unset, .unset, .unset, .unset, .unset, .unset] [(.ref b1)])) _
    refine XS.astoreN X13.here hx rfl (hb hby at_69) rfl rfl (l' := #[.val (.int p1), .val (.int p2), .val (.ref b1), .unset, .unset, .unset, .unset, .unset]) rfl ?_
    show Steps p.tables e below (T13.setTop (mkF m 70 #[.val (.int p1), .val (.int p2), .val (.ref b1), .unset, .unset, .unset, .unset, .unset] [])) _
    refine XS.aloadN X13.here hx rfl (hb hby at_70) rfl rfl ?_
    show Steps p.tables e below (T13.setTop (mkF m 71 #[.val (.int p1), .val (.int p2), .val (.ref b1), .unset, .unset, .unset, .unset, .unset] [(.ref b1)])) _
    refine XS.iloadN X13.here hx rfl (hb hby at_71) rfl ?_
    show Steps p.tables e below (T13.setTop (mkF m 72 #[.val (.int p1), .val (.int p2), .val (.ref b1), .unset, .unset, .unset, .unset, .unset] [(.int p2), (.ref b1)])) _
    refine X13.ldcInt hx hown (mvT hZ (hw _ (List.mem_of_getElem? (i := 8) rfl))) (g := (mkF m 72 #[.val (.int p1), .val (.int p2), .val (.ref b1), .unset, .unset, .unset, .unset, .unset] [(.int p2), (.ref b1)])) rfl (hb hby at_72) _ ?_
    show Steps p.tables e below (T13.setTop (mkF m 74 #[.val (.int p1), .val (.int p2), .val (.ref b1), .unset, .unset, .unset, .unset, .unset] [(.int (2147483647 : Int32)), (.int p2), (.ref b1)])) _
    refine XS.iand X13.here hx rfl (hb hby at_74) rfl ?_
    show Steps p.tables e below (T13.setTop (mkF m 75 #[.val (.int p1), .val (.int p2), .val (.ref b1), .unset, .unset, .unset, .unset, .unset] [(.int (p2 &&& (2147483647 : Int32))), (.ref b1)])) _
    refine XS.bipush X13.here hx rfl (hb hby at_75) ?_
    show Steps p.tables e below (T13.setTop (mkF m 77 #[.val (.int p1), .val (.int p2), .val (.ref b1), .unset, .unset, .unset, .unset, .unset] [(.int (12 : Int32)), (.int (p2 &&& (2147483647 : Int32))), (.ref b1)])) _
    refine XS.irem X13.here hx rfl (hb hby at_77) rfl (by decide) ?_
    show Steps p.tables e below (T13.setTop (mkF m 78 #[.val (.int p1), .val (.int p2), .val (.ref b1), .unset, .unset, .unset, .unset, .unset] [(.int ((p2 &&& (2147483647 : Int32)) - ((p2 &&& (2147483647 : Int32)) / (12 : Int32)) * (12 : Int32))), (.ref b1)])) _
    refine X13.iaload hx (j := ((p2 &&& (2147483647 : Int32)) - ((p2 &&& (2147483647 : Int32)) / (12 : Int32)) * (12 : Int32))) (v := (.int (own_at ((p2 &&& (2147483647 : Int32)) - ((p2 &&& (2147483647 : Int32)) / (12 : Int32)) * (12 : Int32))))) (by rw [e13]; exact Ar14.1) (State.isArrayOf_alike hZ.alike Ar14.2.1) Ar14.2.2 hin14 hat14 (g := (mkF m 78 #[.val (.int p1), .val (.int p2), .val (.ref b1), .unset, .unset, .unset, .unset, .unset] [(.int ((p2 &&& (2147483647 : Int32)) - ((p2 &&& (2147483647 : Int32)) / (12 : Int32)) * (12 : Int32))), (.ref b1)])) rfl rfl (hb hby at_78) _ ?_
    show Steps p.tables e below (T13.setTop (mkF m 79 #[.val (.int p1), .val (.int p2), .val (.ref b1), .unset, .unset, .unset, .unset, .unset] [(.int (own_at ((p2 &&& (2147483647 : Int32)) - ((p2 &&& (2147483647 : Int32)) / (12 : Int32)) * (12 : Int32))))])) _
    refine XS.istoreN X13.here hx rfl (hb hby at_79) rfl (l' := #[.val (.int p1), .val (.int p2), .val (.ref b1), .val (.int (own_at ((p2 &&& (2147483647 : Int32)) - ((p2 &&& (2147483647 : Int32)) / (12 : Int32)) * (12 : Int32)))), .unset, .unset, .unset, .unset]) rfl ?_
    show Steps p.tables e below (T13.setTop (mkF m 80 #[.val (.int p1), .val (.int p2), .val (.ref b1), .val (.int (own_at ((p2 &&& (2147483647 : Int32)) - ((p2 &&& (2147483647 : Int32)) / (12 : Int32)) * (12 : Int32)))), .unset, .unset, .unset, .unset] [])) _
    refine XS.iloadN X13.here hx rfl (hb hby at_80) rfl ?_
    show Steps p.tables e below (T13.setTop (mkF m 81 #[.val (.int p1), .val (.int p2), .val (.ref b1), .val (.int (own_at ((p2 &&& (2147483647 : Int32)) - ((p2 &&& (2147483647 : Int32)) / (12 : Int32)) * (12 : Int32)))), .unset, .unset, .unset, .unset] [(.int p2)])) _
    refine XS.bipush X13.here hx rfl (hb hby at_81) ?_
    show Steps p.tables e below (T13.setTop (mkF m 83 #[.val (.int p1), .val (.int p2), .val (.ref b1), .val (.int (own_at ((p2 &&& (2147483647 : Int32)) - ((p2 &&& (2147483647 : Int32)) / (12 : Int32)) * (12 : Int32)))), .unset, .unset, .unset, .unset] [(.int (8 : Int32)), (.int p2)])) _
    refine XS.iushr X13.here hx rfl (hb hby at_83) rfl ?_
    show Steps p.tables e below (T13.setTop (mkF m 84 #[.val (.int p1), .val (.int p2), .val (.ref b1), .val (.int (own_at ((p2 &&& (2147483647 : Int32)) - ((p2 &&& (2147483647 : Int32)) / (12 : Int32)) * (12 : Int32)))), .unset, .unset, .unset, .unset] [(.int ((p2.toUInt32 >>> ((8 : Int32) &&& 31).toUInt32).toInt32))])) _
    refine XS.iconst X13.here hx rfl (hb hby at_84) ?_
    show Steps p.tables e below (T13.setTop (mkF m 85 #[.val (.int p1), .val (.int p2), .val (.ref b1), .val (.int (own_at ((p2 &&& (2147483647 : Int32)) - ((p2 &&& (2147483647 : Int32)) / (12 : Int32)) * (12 : Int32)))), .unset, .unset, .unset, .unset] [(.int (3 : Int32)), (.int ((p2.toUInt32 >>> ((8 : Int32) &&& 31).toUInt32).toInt32))])) _
    refine XS.irem X13.here hx rfl (hb hby at_85) rfl (by decide) ?_
    show Steps p.tables e below (T13.setTop (mkF m 86 #[.val (.int p1), .val (.int p2), .val (.ref b1), .val (.int (own_at ((p2 &&& (2147483647 : Int32)) - ((p2 &&& (2147483647 : Int32)) / (12 : Int32)) * (12 : Int32)))), .unset, .unset, .unset, .unset] [(.int (((p2.toUInt32 >>> ((8 : Int32) &&& 31).toUInt32).toInt32) - (((p2.toUInt32 >>> ((8 : Int32) &&& 31).toUInt32).toInt32) / (3 : Int32)) * (3 : Int32)))])) _
    refine XS.iconst X13.here hx rfl (hb hby at_86) ?_
    show Steps p.tables e below (T13.setTop (mkF m 87 #[.val (.int p1), .val (.int p2), .val (.ref b1), .val (.int (own_at ((p2 &&& (2147483647 : Int32)) - ((p2 &&& (2147483647 : Int32)) / (12 : Int32)) * (12 : Int32)))), .unset, .unset, .unset, .unset] [(.int (1 : Int32)), (.int (((p2.toUInt32 >>> ((8 : Int32) &&& 31).toUInt32).toInt32) - (((p2.toUInt32 >>> ((8 : Int32) &&& 31).toUInt32).toInt32) / (3 : Int32)) * (3 : Int32)))])) _
    refine XS.isub X13.here hx rfl (hb hby at_87) rfl ?_
    show Steps p.tables e below (T13.setTop (mkF m 88 #[.val (.int p1), .val (.int p2), .val (.ref b1), .val (.int (own_at ((p2 &&& (2147483647 : Int32)) - ((p2 &&& (2147483647 : Int32)) / (12 : Int32)) * (12 : Int32)))), .unset, .unset, .unset, .unset] [(.int ((((p2.toUInt32 >>> ((8 : Int32) &&& 31).toUInt32).toInt32) - (((p2.toUInt32 >>> ((8 : Int32) &&& 31).toUInt32).toInt32) / (3 : Int32)) * (3 : Int32)) - (1 : Int32)))])) _
    refine XS.istore X13.here hx rfl (hb hby at_88) rfl (l' := #[.val (.int p1), .val (.int p2), .val (.ref b1), .val (.int (own_at ((p2 &&& (2147483647 : Int32)) - ((p2 &&& (2147483647 : Int32)) / (12 : Int32)) * (12 : Int32)))), .val (.int ((((p2.toUInt32 >>> ((8 : Int32) &&& 31).toUInt32).toInt32) - (((p2.toUInt32 >>> ((8 : Int32) &&& 31).toUInt32).toInt32) / (3 : Int32)) * (3 : Int32)) - (1 : Int32))), .unset, .unset, .unset]) rfl ?_
    show Steps p.tables e below (T13.setTop (mkF m 90 #[.val (.int p1), .val (.int p2), .val (.ref b1), .val (.int (own_at ((p2 &&& (2147483647 : Int32)) - ((p2 &&& (2147483647 : Int32)) / (12 : Int32)) * (12 : Int32)))), .val (.int ((((p2.toUInt32 >>> ((8 : Int32) &&& 31).toUInt32).toInt32) - (((p2.toUInt32 >>> ((8 : Int32) &&& 31).toUInt32).toInt32) / (3 : Int32)) * (3 : Int32)) - (1 : Int32))), .unset, .unset, .unset] [])) _
    refine XS.iloadN X13.here hx rfl (hb hby at_90) rfl ?_
    show Steps p.tables e below (T13.setTop (mkF m 91 #[.val (.int p1), .val (.int p2), .val (.ref b1), .val (.int (own_at ((p2 &&& (2147483647 : Int32)) - ((p2 &&& (2147483647 : Int32)) / (12 : Int32)) * (12 : Int32)))), .val (.int ((((p2.toUInt32 >>> ((8 : Int32) &&& 31).toUInt32).toInt32) - (((p2.toUInt32 >>> ((8 : Int32) &&& 31).toUInt32).toInt32) / (3 : Int32)) * (3 : Int32)) - (1 : Int32))), .unset, .unset, .unset] [(.int (own_at ((p2 &&& (2147483647 : Int32)) - ((p2 &&& (2147483647 : Int32)) / (12 : Int32)) * (12 : Int32))))])) _
    refine XS.iload X13.here hx rfl (hb hby at_91) rfl ?_
    show Steps p.tables e below (T13.setTop (mkF m 93 #[.val (.int p1), .val (.int p2), .val (.ref b1), .val (.int (own_at ((p2 &&& (2147483647 : Int32)) - ((p2 &&& (2147483647 : Int32)) / (12 : Int32)) * (12 : Int32)))), .val (.int ((((p2.toUInt32 >>> ((8 : Int32) &&& 31).toUInt32).toInt32) - (((p2.toUInt32 >>> ((8 : Int32) &&& 31).toUInt32).toInt32) / (3 : Int32)) * (3 : Int32)) - (1 : Int32))), .unset, .unset, .unset] [(.int ((((p2.toUInt32 >>> ((8 : Int32) &&& 31).toUInt32).toInt32) - (((p2.toUInt32 >>> ((8 : Int32) &&& 31).toUInt32).toInt32) / (3 : Int32)) * (3 : Int32)) - (1 : Int32))), (.int (own_at ((p2 &&& (2147483647 : Int32)) - ((p2 &&& (2147483647 : Int32)) / (12 : Int32)) * (12 : Int32))))])) _
    refine XS.iadd X13.here hx rfl (hb hby at_93) rfl ?_
    show Steps p.tables e below (T13.setTop (mkF m 94 #[.val (.int p1), .val (.int p2), .val (.ref b1), .val (.int (own_at ((p2 &&& (2147483647 : Int32)) - ((p2 &&& (2147483647 : Int32)) / (12 : Int32)) * (12 : Int32)))), .val (.int ((((p2.toUInt32 >>> ((8 : Int32) &&& 31).toUInt32).toInt32) - (((p2.toUInt32 >>> ((8 : Int32) &&& 31).toUInt32).toInt32) / (3 : Int32)) * (3 : Int32)) - (1 : Int32))), .unset, .unset, .unset] [(.int ((own_at ((p2 &&& (2147483647 : Int32)) - ((p2 &&& (2147483647 : Int32)) / (12 : Int32)) * (12 : Int32))) + ((((p2.toUInt32 >>> ((8 : Int32) &&& 31).toUInt32).toInt32) - (((p2.toUInt32 >>> ((8 : Int32) &&& 31).toUInt32).toInt32) / (3 : Int32)) * (3 : Int32)) - (1 : Int32))))])) _
    refine XS.istore X13.here hx rfl (hb hby at_94) rfl (l' := #[.val (.int p1), .val (.int p2), .val (.ref b1), .val (.int (own_at ((p2 &&& (2147483647 : Int32)) - ((p2 &&& (2147483647 : Int32)) / (12 : Int32)) * (12 : Int32)))), .val (.int ((((p2.toUInt32 >>> ((8 : Int32) &&& 31).toUInt32).toInt32) - (((p2.toUInt32 >>> ((8 : Int32) &&& 31).toUInt32).toInt32) / (3 : Int32)) * (3 : Int32)) - (1 : Int32))), .val (.int ((own_at ((p2 &&& (2147483647 : Int32)) - ((p2 &&& (2147483647 : Int32)) / (12 : Int32)) * (12 : Int32))) + ((((p2.toUInt32 >>> ((8 : Int32) &&& 31).toUInt32).toInt32) - (((p2.toUInt32 >>> ((8 : Int32) &&& 31).toUInt32).toInt32) / (3 : Int32)) * (3 : Int32)) - (1 : Int32)))), .unset, .unset]) rfl ?_
    show Steps p.tables e below (T13.setTop (mkF m 96 #[.val (.int p1), .val (.int p2), .val (.ref b1), .val (.int (own_at ((p2 &&& (2147483647 : Int32)) - ((p2 &&& (2147483647 : Int32)) / (12 : Int32)) * (12 : Int32)))), .val (.int ((((p2.toUInt32 >>> ((8 : Int32) &&& 31).toUInt32).toInt32) - (((p2.toUInt32 >>> ((8 : Int32) &&& 31).toUInt32).toInt32) / (3 : Int32)) * (3 : Int32)) - (1 : Int32))), .val (.int ((own_at ((p2 &&& (2147483647 : Int32)) - ((p2 &&& (2147483647 : Int32)) / (12 : Int32)) * (12 : Int32))) + ((((p2.toUInt32 >>> ((8 : Int32) &&& 31).toUInt32).toInt32) - (((p2.toUInt32 >>> ((8 : Int32) &&& 31).toUInt32).toInt32) / (3 : Int32)) * (3 : Int32)) - (1 : Int32)))), .unset, .unset] [])) _
    refine XS.iloadN X13.here hx rfl (hb hby at_96) rfl ?_
    show Steps p.tables e below (T13.setTop (mkF m 97 #[.val (.int p1), .val (.int p2), .val (.ref b1), .val (.int (own_at ((p2 &&& (2147483647 : Int32)) - ((p2 &&& (2147483647 : Int32)) / (12 : Int32)) * (12 : Int32)))), .val (.int ((((p2.toUInt32 >>> ((8 : Int32) &&& 31).toUInt32).toInt32) - (((p2.toUInt32 >>> ((8 : Int32) &&& 31).toUInt32).toInt32) / (3 : Int32)) * (3 : Int32)) - (1 : Int32))), .val (.int ((own_at ((p2 &&& (2147483647 : Int32)) - ((p2 &&& (2147483647 : Int32)) / (12 : Int32)) * (12 : Int32))) + ((((p2.toUInt32 >>> ((8 : Int32) &&& 31).toUInt32).toInt32) - (((p2.toUInt32 >>> ((8 : Int32) &&& 31).toUInt32).toInt32) / (3 : Int32)) * (3 : Int32)) - (1 : Int32)))), .unset, .unset] [(.int p1)])) _
    refine st15 _ ?_
    show Steps p.tables e below (T15.setTop (mkF m 100 #[.val (.int p1), .val (.int p2), .val (.ref b1), .val (.int (own_at ((p2 &&& (2147483647 : Int32)) - ((p2 &&& (2147483647 : Int32)) / (12 : Int32)) * (12 : Int32)))), .val (.int ((((p2.toUInt32 >>> ((8 : Int32) &&& 31).toUInt32).toInt32) - (((p2.toUInt32 >>> ((8 : Int32) &&& 31).toUInt32).toInt32) / (3 : Int32)) * (3 : Int32)) - (1 : Int32))), .val (.int ((own_at ((p2 &&& (2147483647 : Int32)) - ((p2 &&& (2147483647 : Int32)) / (12 : Int32)) * (12 : Int32))) + ((((p2.toUInt32 >>> ((8 : Int32) &&& 31).toUInt32).toInt32) - (((p2.toUInt32 >>> ((8 : Int32) &&& 31).toUInt32).toInt32) / (3 : Int32)) * (3 : Int32)) - (1 : Int32)))), .unset, .unset] [(.int (v1 p1))])) _
    refine XS.iloadN X15.here hx rfl (hb hby at_100) rfl ?_
    show Steps p.tables e below (T15.setTop (mkF m 101 #[.val (.int p1), .val (.int p2), .val (.ref b1), .val (.int (own_at ((p2 &&& (2147483647 : Int32)) - ((p2 &&& (2147483647 : Int32)) / (12 : Int32)) * (12 : Int32)))), .val (.int ((((p2.toUInt32 >>> ((8 : Int32) &&& 31).toUInt32).toInt32) - (((p2.toUInt32 >>> ((8 : Int32) &&& 31).toUInt32).toInt32) / (3 : Int32)) * (3 : Int32)) - (1 : Int32))), .val (.int ((own_at ((p2 &&& (2147483647 : Int32)) - ((p2 &&& (2147483647 : Int32)) / (12 : Int32)) * (12 : Int32))) + ((((p2.toUInt32 >>> ((8 : Int32) &&& 31).toUInt32).toInt32) - (((p2.toUInt32 >>> ((8 : Int32) &&& 31).toUInt32).toInt32) / (3 : Int32)) * (3 : Int32)) - (1 : Int32)))), .unset, .unset] [(.int p1), (.int (v1 p1))])) _
    refine st16 _ ?_
    show Steps p.tables e below (T16.setTop (mkF m 104 #[.val (.int p1), .val (.int p2), .val (.ref b1), .val (.int (own_at ((p2 &&& (2147483647 : Int32)) - ((p2 &&& (2147483647 : Int32)) / (12 : Int32)) * (12 : Int32)))), .val (.int ((((p2.toUInt32 >>> ((8 : Int32) &&& 31).toUInt32).toInt32) - (((p2.toUInt32 >>> ((8 : Int32) &&& 31).toUInt32).toInt32) / (3 : Int32)) * (3 : Int32)) - (1 : Int32))), .val (.int ((own_at ((p2 &&& (2147483647 : Int32)) - ((p2 &&& (2147483647 : Int32)) / (12 : Int32)) * (12 : Int32))) + ((((p2.toUInt32 >>> ((8 : Int32) &&& 31).toUInt32).toInt32) - (((p2.toUInt32 >>> ((8 : Int32) &&& 31).toUInt32).toInt32) / (3 : Int32)) * (3 : Int32)) - (1 : Int32)))), .unset, .unset] [(.int (v2 p1)), (.int (v1 p1))])) _
    refine sg104_18 _ ?_
    show Steps p.tables e below (T16.setTop (mkF m 112 #[.val (.int p1), .val (.int p2), .val (.ref b1), .val (.int (own_at ((p2 &&& (2147483647 : Int32)) - ((p2 &&& (2147483647 : Int32)) / (12 : Int32)) * (12 : Int32)))), .val (.int ((((p2.toUInt32 >>> ((8 : Int32) &&& 31).toUInt32).toInt32) - (((p2.toUInt32 >>> ((8 : Int32) &&& 31).toUInt32).toInt32) / (3 : Int32)) * (3 : Int32)) - (1 : Int32))), .val (.int ((own_at ((p2 &&& (2147483647 : Int32)) - ((p2 &&& (2147483647 : Int32)) / (12 : Int32)) * (12 : Int32))) + ((((p2.toUInt32 >>> ((8 : Int32) &&& 31).toUInt32).toInt32) - (((p2.toUInt32 >>> ((8 : Int32) &&& 31).toUInt32).toInt32) / (3 : Int32)) * (3 : Int32)) - (1 : Int32)))), .unset, .unset] [(.int (j0_112_s0 p1 p2))])) _
    refine XS.istore X16.here hx rfl (hb hby at_112) rfl (l' := #[.val (.int p1), .val (.int p2), .val (.ref b1), .val (.int (own_at ((p2 &&& (2147483647 : Int32)) - ((p2 &&& (2147483647 : Int32)) / (12 : Int32)) * (12 : Int32)))), .val (.int ((((p2.toUInt32 >>> ((8 : Int32) &&& 31).toUInt32).toInt32) - (((p2.toUInt32 >>> ((8 : Int32) &&& 31).toUInt32).toInt32) / (3 : Int32)) * (3 : Int32)) - (1 : Int32))), .val (.int ((own_at ((p2 &&& (2147483647 : Int32)) - ((p2 &&& (2147483647 : Int32)) / (12 : Int32)) * (12 : Int32))) + ((((p2.toUInt32 >>> ((8 : Int32) &&& 31).toUInt32).toInt32) - (((p2.toUInt32 >>> ((8 : Int32) &&& 31).toUInt32).toInt32) / (3 : Int32)) * (3 : Int32)) - (1 : Int32)))), .val (.int (j0_112_s0 p1 p2)), .unset]) rfl ?_
    show Steps p.tables e below (T16.setTop (mkF m 114 #[.val (.int p1), .val (.int p2), .val (.ref b1), .val (.int (own_at ((p2 &&& (2147483647 : Int32)) - ((p2 &&& (2147483647 : Int32)) / (12 : Int32)) * (12 : Int32)))), .val (.int ((((p2.toUInt32 >>> ((8 : Int32) &&& 31).toUInt32).toInt32) - (((p2.toUInt32 >>> ((8 : Int32) &&& 31).toUInt32).toInt32) / (3 : Int32)) * (3 : Int32)) - (1 : Int32))), .val (.int ((own_at ((p2 &&& (2147483647 : Int32)) - ((p2 &&& (2147483647 : Int32)) / (12 : Int32)) * (12 : Int32))) + ((((p2.toUInt32 >>> ((8 : Int32) &&& 31).toUInt32).toInt32) - (((p2.toUInt32 >>> ((8 : Int32) &&& 31).toUInt32).toInt32) / (3 : Int32)) * (3 : Int32)) - (1 : Int32)))), .val (.int (j0_112_s0 p1 p2)), .unset] [])) _
    refine XS.iload X16.here hx rfl (hb hby at_114) rfl ?_
    show Steps p.tables e below (T16.setTop (mkF m 116 #[.val (.int p1), .val (.int p2), .val (.ref b1), .val (.int (own_at ((p2 &&& (2147483647 : Int32)) - ((p2 &&& (2147483647 : Int32)) / (12 : Int32)) * (12 : Int32)))), .val (.int ((((p2.toUInt32 >>> ((8 : Int32) &&& 31).toUInt32).toInt32) - (((p2.toUInt32 >>> ((8 : Int32) &&& 31).toUInt32).toInt32) / (3 : Int32)) * (3 : Int32)) - (1 : Int32))), .val (.int ((own_at ((p2 &&& (2147483647 : Int32)) - ((p2 &&& (2147483647 : Int32)) / (12 : Int32)) * (12 : Int32))) + ((((p2.toUInt32 >>> ((8 : Int32) &&& 31).toUInt32).toInt32) - (((p2.toUInt32 >>> ((8 : Int32) &&& 31).toUInt32).toInt32) / (3 : Int32)) * (3 : Int32)) - (1 : Int32)))), .val (.int (j0_112_s0 p1 p2)), .unset] [(.int ((own_at ((p2 &&& (2147483647 : Int32)) - ((p2 &&& (2147483647 : Int32)) / (12 : Int32)) * (12 : Int32))) + ((((p2.toUInt32 >>> ((8 : Int32) &&& 31).toUInt32).toInt32) - (((p2.toUInt32 >>> ((8 : Int32) &&& 31).toUInt32).toInt32) / (3 : Int32)) * (3 : Int32)) - (1 : Int32))))])) _
    refine st19 _ ?_
    show Steps p.tables e below (T19.setTop (mkF m 119 #[.val (.int p1), .val (.int p2), .val (.ref b1), .val (.int (own_at ((p2 &&& (2147483647 : Int32)) - ((p2 &&& (2147483647 : Int32)) / (12 : Int32)) * (12 : Int32)))), .val (.int ((((p2.toUInt32 >>> ((8 : Int32) &&& 31).toUInt32).toInt32) - (((p2.toUInt32 >>> ((8 : Int32) &&& 31).toUInt32).toInt32) / (3 : Int32)) * (3 : Int32)) - (1 : Int32))), .val (.int ((own_at ((p2 &&& (2147483647 : Int32)) - ((p2 &&& (2147483647 : Int32)) / (12 : Int32)) * (12 : Int32))) + ((((p2.toUInt32 >>> ((8 : Int32) &&& 31).toUInt32).toInt32) - (((p2.toUInt32 >>> ((8 : Int32) &&& 31).toUInt32).toInt32) / (3 : Int32)) * (3 : Int32)) - (1 : Int32)))), .val (.int (j0_112_s0 p1 p2)), .unset] [(.int (v1 ((own_at ((p2 &&& (2147483647 : Int32)) - ((p2 &&& (2147483647 : Int32)) / (12 : Int32)) * (12 : Int32))) + ((((p2.toUInt32 >>> ((8 : Int32) &&& 31).toUInt32).toInt32) - (((p2.toUInt32 >>> ((8 : Int32) &&& 31).toUInt32).toInt32) / (3 : Int32)) * (3 : Int32)) - (1 : Int32)))))])) _
    refine XS.iload X19.here hx rfl (hb hby at_119) rfl ?_
    show Steps p.tables e below (T19.setTop (mkF m 121 #[.val (.int p1), .val (.int p2), .val (.ref b1), .val (.int (own_at ((p2 &&& (2147483647 : Int32)) - ((p2 &&& (2147483647 : Int32)) / (12 : Int32)) * (12 : Int32)))), .val (.int ((((p2.toUInt32 >>> ((8 : Int32) &&& 31).toUInt32).toInt32) - (((p2.toUInt32 >>> ((8 : Int32) &&& 31).toUInt32).toInt32) / (3 : Int32)) * (3 : Int32)) - (1 : Int32))), .val (.int ((own_at ((p2 &&& (2147483647 : Int32)) - ((p2 &&& (2147483647 : Int32)) / (12 : Int32)) * (12 : Int32))) + ((((p2.toUInt32 >>> ((8 : Int32) &&& 31).toUInt32).toInt32) - (((p2.toUInt32 >>> ((8 : Int32) &&& 31).toUInt32).toInt32) / (3 : Int32)) * (3 : Int32)) - (1 : Int32)))), .val (.int (j0_112_s0 p1 p2)), .unset] [(.int ((own_at ((p2 &&& (2147483647 : Int32)) - ((p2 &&& (2147483647 : Int32)) / (12 : Int32)) * (12 : Int32))) + ((((p2.toUInt32 >>> ((8 : Int32) &&& 31).toUInt32).toInt32) - (((p2.toUInt32 >>> ((8 : Int32) &&& 31).toUInt32).toInt32) / (3 : Int32)) * (3 : Int32)) - (1 : Int32)))), (.int (v1 ((own_at ((p2 &&& (2147483647 : Int32)) - ((p2 &&& (2147483647 : Int32)) / (12 : Int32)) * (12 : Int32))) + ((((p2.toUInt32 >>> ((8 : Int32) &&& 31).toUInt32).toInt32) - (((p2.toUInt32 >>> ((8 : Int32) &&& 31).toUInt32).toInt32) / (3 : Int32)) * (3 : Int32)) - (1 : Int32)))))])) _
    refine st20 _ ?_
    show Steps p.tables e below (T20.setTop (mkF m 124 #[.val (.int p1), .val (.int p2), .val (.ref b1), .val (.int (own_at ((p2 &&& (2147483647 : Int32)) - ((p2 &&& (2147483647 : Int32)) / (12 : Int32)) * (12 : Int32)))), .val (.int ((((p2.toUInt32 >>> ((8 : Int32) &&& 31).toUInt32).toInt32) - (((p2.toUInt32 >>> ((8 : Int32) &&& 31).toUInt32).toInt32) / (3 : Int32)) * (3 : Int32)) - (1 : Int32))), .val (.int ((own_at ((p2 &&& (2147483647 : Int32)) - ((p2 &&& (2147483647 : Int32)) / (12 : Int32)) * (12 : Int32))) + ((((p2.toUInt32 >>> ((8 : Int32) &&& 31).toUInt32).toInt32) - (((p2.toUInt32 >>> ((8 : Int32) &&& 31).toUInt32).toInt32) / (3 : Int32)) * (3 : Int32)) - (1 : Int32)))), .val (.int (j0_112_s0 p1 p2)), .unset] [(.int (v2 ((own_at ((p2 &&& (2147483647 : Int32)) - ((p2 &&& (2147483647 : Int32)) / (12 : Int32)) * (12 : Int32))) + ((((p2.toUInt32 >>> ((8 : Int32) &&& 31).toUInt32).toInt32) - (((p2.toUInt32 >>> ((8 : Int32) &&& 31).toUInt32).toInt32) / (3 : Int32)) * (3 : Int32)) - (1 : Int32))))), (.int (v1 ((own_at ((p2 &&& (2147483647 : Int32)) - ((p2 &&& (2147483647 : Int32)) / (12 : Int32)) * (12 : Int32))) + ((((p2.toUInt32 >>> ((8 : Int32) &&& 31).toUInt32).toInt32) - (((p2.toUInt32 >>> ((8 : Int32) &&& 31).toUInt32).toInt32) / (3 : Int32)) * (3 : Int32)) - (1 : Int32)))))])) _
    refine sg124_22 _ ?_
    show Steps p.tables e below (T20.setTop (mkF m 132 #[.val (.int p1), .val (.int p2), .val (.ref b1), .val (.int (own_at ((p2 &&& (2147483647 : Int32)) - ((p2 &&& (2147483647 : Int32)) / (12 : Int32)) * (12 : Int32)))), .val (.int ((((p2.toUInt32 >>> ((8 : Int32) &&& 31).toUInt32).toInt32) - (((p2.toUInt32 >>> ((8 : Int32) &&& 31).toUInt32).toInt32) / (3 : Int32)) * (3 : Int32)) - (1 : Int32))), .val (.int ((own_at ((p2 &&& (2147483647 : Int32)) - ((p2 &&& (2147483647 : Int32)) / (12 : Int32)) * (12 : Int32))) + ((((p2.toUInt32 >>> ((8 : Int32) &&& 31).toUInt32).toInt32) - (((p2.toUInt32 >>> ((8 : Int32) &&& 31).toUInt32).toInt32) / (3 : Int32)) * (3 : Int32)) - (1 : Int32)))), .val (.int (j0_112_s0 p1 p2)), .unset] [(.int (j0_132_s0 p1 p2))])) _
    refine XS.istore X20.here hx rfl (hb hby at_132) rfl (l' := #[.val (.int p1), .val (.int p2), .val (.ref b1), .val (.int (own_at ((p2 &&& (2147483647 : Int32)) - ((p2 &&& (2147483647 : Int32)) / (12 : Int32)) * (12 : Int32)))), .val (.int ((((p2.toUInt32 >>> ((8 : Int32) &&& 31).toUInt32).toInt32) - (((p2.toUInt32 >>> ((8 : Int32) &&& 31).toUInt32).toInt32) / (3 : Int32)) * (3 : Int32)) - (1 : Int32))), .val (.int ((own_at ((p2 &&& (2147483647 : Int32)) - ((p2 &&& (2147483647 : Int32)) / (12 : Int32)) * (12 : Int32))) + ((((p2.toUInt32 >>> ((8 : Int32) &&& 31).toUInt32).toInt32) - (((p2.toUInt32 >>> ((8 : Int32) &&& 31).toUInt32).toInt32) / (3 : Int32)) * (3 : Int32)) - (1 : Int32)))), .val (.int (j0_112_s0 p1 p2)), .val (.int (j0_132_s0 p1 p2))]) rfl ?_
    show Steps p.tables e below (T20.setTop (mkF m 134 #[.val (.int p1), .val (.int p2), .val (.ref b1), .val (.int (own_at ((p2 &&& (2147483647 : Int32)) - ((p2 &&& (2147483647 : Int32)) / (12 : Int32)) * (12 : Int32)))), .val (.int ((((p2.toUInt32 >>> ((8 : Int32) &&& 31).toUInt32).toInt32) - (((p2.toUInt32 >>> ((8 : Int32) &&& 31).toUInt32).toInt32) / (3 : Int32)) * (3 : Int32)) - (1 : Int32))), .val (.int ((own_at ((p2 &&& (2147483647 : Int32)) - ((p2 &&& (2147483647 : Int32)) / (12 : Int32)) * (12 : Int32))) + ((((p2.toUInt32 >>> ((8 : Int32) &&& 31).toUInt32).toInt32) - (((p2.toUInt32 >>> ((8 : Int32) &&& 31).toUInt32).toInt32) / (3 : Int32)) * (3 : Int32)) - (1 : Int32)))), .val (.int (j0_112_s0 p1 p2)), .val (.int (j0_132_s0 p1 p2))] [])) _
    refine sg134_25 _ ?_
    show Steps p.tables e below (T20.setTop (mkF m 149 #[.val (.int p1), .val (.int p2), .val (.ref b1), .val (.int (own_at ((p2 &&& (2147483647 : Int32)) - ((p2 &&& (2147483647 : Int32)) / (12 : Int32)) * (12 : Int32)))), .val (.int ((((p2.toUInt32 >>> ((8 : Int32) &&& 31).toUInt32).toInt32) - (((p2.toUInt32 >>> ((8 : Int32) &&& 31).toUInt32).toInt32) / (3 : Int32)) * (3 : Int32)) - (1 : Int32))), .val (.int ((own_at ((p2 &&& (2147483647 : Int32)) - ((p2 &&& (2147483647 : Int32)) / (12 : Int32)) * (12 : Int32))) + ((((p2.toUInt32 >>> ((8 : Int32) &&& 31).toUInt32).toInt32) - (((p2.toUInt32 >>> ((8 : Int32) &&& 31).toUInt32).toInt32) / (3 : Int32)) * (3 : Int32)) - (1 : Int32)))), .val (.int (j0_112_s0 p1 p2)), .val (.int (j0_132_s0 p1 p2))] [(.int (j0_149_s0 p1 p2))])) _
    exact retN X20 hx (t := .boolean) Bd.returns (by simp) (hb hby at_149) (by rw [hnar]; exact hr)
  · show Q0 Z p1 p2 h0 n0 _ T20.heap _
    rw [e20]
    exact ⟨rfl, N20, trivial⟩
theorem own_small (c : Int32) (h : c < (32 : Int32)) : v1 c = v2 c := by
  have t0 : (0 : Int32).toInt = 0 := by decide
  have t9 : (9 : Int32).toInt = 9 := by decide
  have t10 : (10 : Int32).toInt = 10 := by decide
  have t13 : (13 : Int32).toInt = 13 := by decide
  have hb := h
  rw [Int32.lt_iff_toInt_lt, show (32 : Int32).toInt = 32 by decide] at hb
  have e1 : v1 c = j1_29_s0 c := if_pos h
  rw [e1]
  by_cases a1 : c = (9 : Int32)
  · subst a1; decide
  by_cases a2 : c = (10 : Int32)
  · subst a2; decide
  by_cases a3 : c = (13 : Int32)
  · subst a3; decide
  have l : j1_29_s0 c = 0 := (if_neg a1).trans ((if_neg a2).trans (if_neg a3))
  have r : j2_63_s0 c = 1 := by
    by_cases b1 : c < (0 : Int32)
    · exact if_pos b1
    · refine (if_neg b1).trans ((if_neg ?_).trans ((if_pos h).trans ((if_neg a1).trans ((if_neg a2).trans (if_neg a3)))))
      rw [Int32.lt_iff_toInt_lt, show (1114111 : Int32).toInt = 1114111 by decide]; omega
  have r2 : v2 c = 0 := if_neg (by rw [r]; decide)
  rw [l, r2]
theorem own_tail (c : Int32) (h0 : ¬ c < (0 : Int32)) (h1 : ¬ (1114111 : Int32) < c) (h2 : ¬ c < (32 : Int32)) :
    j2_63_s0 c = (if c < (55296 : Int32) then (if c = (65534 : Int32) then (1 : Int32) else (if c = (65535 : Int32) then (1 : Int32) else (0 : Int32))) else (if (57343 : Int32) < c then (if c = (65534 : Int32) then (1 : Int32) else (if c = (65535 : Int32) then (1 : Int32) else (0 : Int32))) else (1 : Int32))) :=
  (if_neg h0).trans ((if_neg h1).trans (if_neg h2))
theorem own_big (c : Int32) (h : ¬ c < (32 : Int32)) : v1 c = v2 c := by
  have hk : ∀ k : Int32, c = k ↔ c.toInt = k.toInt := fun k => Int32.toInt_inj.symm
  have hl : ∀ k : Int32, c < k ↔ c.toInt < k.toInt := fun k => Int32.lt_iff_toInt_lt
  have hg : ∀ k : Int32, k < c ↔ k.toInt < c.toInt := fun k => Int32.lt_iff_toInt_lt
  have t32 : (32 : Int32).toInt = 32 := by decide
  have t0 : (0 : Int32).toInt = 0 := by decide
  have t5 : (55295 : Int32).toInt = 55295 := by decide
  have t6 : (55296 : Int32).toInt = 55296 := by decide
  have t7 : (57343 : Int32).toInt = 57343 := by decide
  have t8 : (57344 : Int32).toInt = 57344 := by decide
  have t9 : (65533 : Int32).toInt = 65533 := by decide
  have t10 : (65534 : Int32).toInt = 65534 := by decide
  have t11 : (65535 : Int32).toInt = 65535 := by decide
  have t12 : (65536 : Int32).toInt = 65536 := by decide
  have t13 : (1114111 : Int32).toInt = 1114111 := by decide
  have hz := h
  rw [hl, t32] at hz
  have h0 : ¬ c < (0 : Int32) := by rw [hl, t0]; omega
  have e1 : v1 c = j1_65_s0 c := if_neg h
  rw [e1]
  have two : ∀ x : Int32, x = 0 → (if x = (0 : Int32) then (1 : Int32) else 0) = 1 := fun x q => if_pos q
  have one : ∀ x : Int32, x = 1 → (if x = (0 : Int32) then (1 : Int32) else 0) = 0 := fun x q => if_neg (by rw [q]; decide)
  show _ = (if j2_63_s0 c = (0 : Int32) then (1 : Int32) else 0)
  by_cases h1 : (1114111 : Int32) < c
  · have z1 := h1
    rw [hg, t13] at z1
    have tl0 : j2_63_s0 c = 1 := (if_neg h0).trans (if_pos h1)
    rw [one _ tl0]
    unfold j1_65_s0
    rw [if_pos (by rw [hg, t5]; omega), if_neg (by rw [hl, t8]; omega), if_pos (by rw [hg, t9]; omega), if_neg (by rw [hl, t12]; omega), if_pos h1]
  · have z1 := h1
    rw [hg, t13] at z1
    have tl := own_tail c h0 h1 h
    unfold j1_65_s0
    by_cases a : (55295 : Int32) < c
    · have za := a
      rw [hg, t5] at za
      rw [if_pos a]
      rw [if_neg (by rw [hl, t6]; omega)] at tl
      by_cases b : c < (57344 : Int32)
      · have zb := b
        rw [hl, t8] at zb
        rw [if_neg (by rw [hg, t7]; omega)] at tl
        rw [if_pos b, if_pos (by rw [hl, t12]; omega), one _ tl]
      · have zb := b
        rw [hl, t8] at zb
        rw [if_pos (by rw [hg, t7]; omega)] at tl
        rw [if_neg b]
        by_cases d : (65533 : Int32) < c
        · have zd := d
          rw [hg, t9] at zd
          rw [if_pos d]
          by_cases g : c < (65536 : Int32)
          · have zg := g
            rw [hl, t12] at zg
            rw [if_pos g, one _ ?_]
            rw [tl]
            by_cases f : c = (65534 : Int32)
            · rw [if_pos f]
            · rw [if_neg f, if_pos]
              rw [hk, t10] at f
              rw [hk, t11]; omega
          · have zg := g
            rw [hl, t12] at zg
            rw [if_neg g, if_neg h1, two _ ?_]
            rw [tl, if_neg (by rw [hk, t10]; omega), if_neg (by rw [hk, t11]; omega)]
        · have zd := d
          rw [hg, t9] at zd
          rw [if_neg d, two _ ?_]
          rw [tl, if_neg (by rw [hk, t10]; omega), if_neg (by rw [hk, t11]; omega)]
    · have za := a
      rw [hg, t5] at za
      rw [if_neg a, two _ ?_]
      rw [tl, if_pos (by rw [hl, t6]; omega), if_neg (by rw [hk, t10]; omega), if_neg (by rw [hk, t11]; omega)]
theorem own_char (c : Int32) : v1 c = v2 c := by
  by_cases h : c < (32 : Int32)
  · exact own_small c h
  · exact own_big c h
theorem own_plain (p1 p2 : Int32) : v0 p1 p2 = 1 := by
  have h1 : j0_112_s0 p1 p2 = 1 := if_pos (own_char _)
  have h2 : j0_132_s0 p1 p2 = 1 := if_pos (own_char _)
  exact (if_neg (by rw [h1]; decide)).trans (if_neg (by rw [h2]; decide))

set_option maxRecDepth 65536 in
set_option maxHeartbeats 40000000 in
theorem comes_1 {Post : Tables → Env → Array Value → State → Outcome → State → Prop} (hpost : ∀ tb e args s v u, (limb_1_1.after args s (.returned v) u = true ∧ limb_1_2.after args s (.returned v) u = true ∧ True) → FrameEnd s (.returned v) u (Jvm.fieldLocs frame_1_writes args s ++ Jvm.arrayLocs frame_1_arrays args s ++ Jvm.staticLocs frame_1_statics s) 16 128 → Post tb e args s (.returned v) u) :
    ArmFor flags0 classFile x code maxLocals ret World_1 tables_1 room_1 Calls_1 rest_1 Pre_1 Post := by
  intro l hfl _ _ p e ha hc hk s m args below hf hA hF happ hP
  obtain ⟨hcalls, hrest, hpre⟩ := hP
  obtain ⟨-, -, -, hnamed, -, -, -, hat⟩ := (Spec.applies_iff hf).mp happ
  obtain ⟨hg, hn⟩ := and_e (Cond.before_iff.mp (show (Jvm.Cond.and given_1 narrow_1).before args s = true from hpre))
  obtain ⟨gc, gr0⟩ := and_e hg
  obtain ⟨ga0, gr1⟩ := and_e gr0
  obtain ⟨w0, w1, rfl⟩ : ∃ w0 w1 : Value, args = #[w0, w1] := by
    have hs : args.size = 2 := by simpa [Cond.value, given_1] using gc
    obtain ⟨L⟩ := args
    match L, hs with
    | [w0, w1], _ => exact ⟨w0, w1, rfl⟩
  have hw := fun d (hd : d ∈ tables_1) => atoms_spec (ws := Jvm.Cond.code x code maxLocals ret :: tables_1) hat d (List.mem_cons_of_mem _ hd)
  obtain ⟨i0, ei0⟩ := is_v ga0
  obtain rfl : w0 = (.int i0) := Option.some.inj ei0
  obtain ⟨i1, ei1⟩ := is_v gr1
  obtain rfl : w1 = (.int i1) := Option.some.inj ei1
  obtain ⟨n, o, h1, h2, h3, _, L, rfl, ⟨rfl, N, -⟩, hq⟩ := rm0 l s _ hw tables_1 i0 i1 s.heap s.heap.size (Nat.le_refl _) p e ha hc hk s m _ below hf ((Spec.applies_iff_loose hf).mp happ).1 ⟨rfl, State.Warmed39.refl s, rfl⟩ trivial
  have hv : v0 i0 i1 = 1 := own_plain i0 i1
  rw [hv] at h3 hq
  refine ⟨n, _, h1, h2, h3, hpost _ _ _ _ _ _ ⟨Cond.after_iff.mpr rfl, Cond.after_iff.mpr (eq_i res_at (Term.int_eval (1)) rfl), trivial⟩ ⟨hq.1, hq.2.1, (hq.2.2.sift fun y hy => Or.inr (N y hy)).mono (by decide) (by decide)⟩⟩
theorem main_1_1 : Claimed_1_1 := comes_1 fun _ _ _ _ _ _ h hF => ⟨h.1, hF⟩
theorem main_1_2 : Claimed_1_2 := comes_1 fun _ _ _ _ _ _ h hF => ⟨h.2.1, hF⟩
end Jvm.Pilot.@@N@@
namespace Jvm.Pilot.@@N@@
open Jvm Jvm.ClassFile Sem Op Lib Jvm.Free Jvm.Stand Jvm.Pilot.@@N@@.Jvm.D
/-! MADE BY PROGRAM (witnessworld.py) out of the Statement's table words and the real class files: 9 classes; the members and pool entries that the words name. The judged class is class 1, her method 2. -/
namespace start1
open Jvm.ClassFile
def u (s : String) : CpInfo := .utf8 (stringToUtf16 s)
/-- a pool by its gaps: so many unusable entries, then the entry; so many at the end -/
def gap : Nat → List CpInfo → List CpInfo
  | 0, r => r
  | n + 1, r => .unusable :: gap n r
def poolList (es : List (Nat × CpInfo)) (last : Nat) : List CpInfo := es.foldr (fun e r => gap e.1 (e.2 :: r)) (gap last [])
def pool (es : List (Nat × CpInfo)) (last : Nat) : Array CpInfo := ⟨poolList es last⟩
def fileOf (pool : Array CpInfo) (this : Nat) (attrs : Array Attribute := #[]) (ms : Array MethodInfo := #[]) (fl : Nat := 33) (sup : Nat := 0) (ifs : Array Nat := #[]) (fds : Array FieldInfo := #[]) : ClassFile where
  minorVersion := 0
  majorVersion := 65
  constantPool := pool
  accessFlags := fl
  thisClass := this
  superClass := sup
  interfaces := ifs
  fields := fds
  methods := ms
  attributes := attrs
def plain (name : String) (sup : Option ClassId) : Class where
  name := name
  kind := .ordinary
  loader := none
  accessFlags := 33
  super := sup
  interfaces := #[]
  cf := none
  fields := #[]
  methods := #[]
  instanceTypes := #[]
  staticTypes := #[]
  resolved := #[]
  callSites := []
  init := .initialized
  statics := none
  mirror := none

def pool0 : Array CpInfo := pool [(5, u "<init>"), (0, u "()V"), (1, .class_ 10), (1, u "java/lang/Object")] 113

def k0m0 : Method := { name := "<init>", desc := "()V", sig := { parameters := [], returnType := none }, accessFlags := 1, code := none }
/-- java/lang/Object -/
def k0 : Class := { plain "java/lang/Object" none with
  accessFlags := 33
  interfaces := #[]
  cf := some (fileOf pool0 8 #[] #[{ accessFlags := 1, nameIndex := 5, descriptorIndex := 6, attributes := #[] }] 33 0 #[] #[])
  fields := #[]
  methods := #[k0m0]
  instanceTypes := #[]
  staticTypes := #[]
  resolved := Array.replicate 124 none
  statics := none }

def pool1 : Array CpInfo := pool [(2, .class_ 4), (1, u "java/lang/Object"), (0, u "<init>"), (0, u "()V"), (0, .integer 1114111), (0, .integer 55296), (0, .integer 57343), (0, .integer 65534), (0, .integer 65535), (0, .integer 55295), (0, .integer 57344), (0, .integer 65533), (0, .integer 65536), (2, .integer 2147483648), (0, .integer 2147483647), (0, .methodref 21 22), (0, .class_ 23), (0, .nameAndType 24 25), (0, u "com/example/paths_into_automata/pathsintoautomata/io/XmlNames"), (0, u "isChar"), (0, u "(I)Z"), (0, .methodref 27 28), (0, .class_ 29), (0, .nameAndType 30 25), (0, u "com/example/paths_into_automata/pathsintoautomata/io/XmlNamesIsCharPinLaw"), (0, u "expected"), (3, u "law"), (0, u "(II)Z")] 4

def k1m0 : Method := { name := "<init>", desc := "()V", sig := { parameters := [], returnType := none }, accessFlags := 2, code := none }
def k1c1 : Code := { maxStack := 2, maxLocals := 2, code := method_2_code, exceptionTable := #[], attributes := #[] }
def k1m1 : Method := { name := "expected", desc := "(I)Z", sig := { parameters := [.int], returnType := some .boolean }, accessFlags := 10, code := some k1c1 }
def k1c2 : Code := { maxStack := 4, maxLocals := 8, code := code, exceptionTable := #[], attributes := #[] }
def k1m2 : Method := { name := "law", desc := "(II)Z", sig := { parameters := [.int, .int], returnType := some .boolean }, accessFlags := 9, code := some k1c2 }
/-- com/example/paths_into_automata/pathsintoautomata/io/XmlNamesIsCharPinLaw -/
def k1 : Class := { plain "com/example/paths_into_automata/pathsintoautomata/io/XmlNamesIsCharPinLaw" (some 0) with
  accessFlags := 49
  interfaces := #[]
  cf := some (fileOf pool1 27 #[] #[{ accessFlags := 2, nameIndex := 5, descriptorIndex := 6, attributes := #[] }, { accessFlags := 10, nameIndex := 30, descriptorIndex := 25, attributes := #[] }, { accessFlags := 9, nameIndex := 34, descriptorIndex := 35, attributes := #[] }] 49 2 #[] #[])
  fields := #[]
  methods := #[k1m0, k1m1, k1m2]
  instanceTypes := #[]
  staticTypes := #[]
  resolved := Array.replicate 40 none
  statics := none }

def pool2 : Array CpInfo := pool [(2, .class_ 4), (1, u "java/lang/Object"), (0, u "<init>"), (0, u "()V"), (0, .integer 55295), (0, .integer 57344), (0, .integer 65533), (0, .integer 65536), (0, .integer 1114111), (5, .class_ 19), (1, u "com/example/paths_into_automata/pathsintoautomata/io/XmlNames"), (1, u "(I)Z"), (43, u "isChar")] 26

def k2m0 : Method := { name := "<init>", desc := "()V", sig := { parameters := [], returnType := none }, accessFlags := 2, code := none }
def k2c1 : Code := { maxStack := 2, maxLocals := 1, code := prog_251_method_2_code, exceptionTable := #[], attributes := #[] }
def k2m1 : Method := { name := "isChar", desc := "(I)Z", sig := { parameters := [.int], returnType := some .boolean }, accessFlags := 8, code := some k2c1 }
/-- com/example/paths_into_automata/pathsintoautomata/io/XmlNames -/
def k2 : Class := { plain "com/example/paths_into_automata/pathsintoautomata/io/XmlNames" (some 0) with
  accessFlags := 32
  interfaces := #[]
  cf := some (fileOf pool2 17 #[] #[{ accessFlags := 2, nameIndex := 5, descriptorIndex := 6, attributes := #[] }, { accessFlags := 8, nameIndex := 65, descriptorIndex := 21, attributes := #[] }] 32 2 #[] #[])
  fields := #[]
  methods := #[k2m0, k2m1]
  instanceTypes := #[]
  staticTypes := #[]
  resolved := Array.replicate 92 none
  statics := none }

def pool3 : Array CpInfo := pool [(1, u "java/lang/Cloneable"), (0, .class_ 1), (0, u "java/lang/Object"), (0, .class_ 3)] 3

/-- java/lang/Cloneable -/
def k3 : Class := { plain "java/lang/Cloneable" (some 0) with
  accessFlags := 1537
  interfaces := #[]
  cf := some (fileOf pool3 2 #[] #[] 1537 4 #[] #[])
  fields := #[]
  methods := #[]
  instanceTypes := #[]
  staticTypes := #[]
  resolved := Array.replicate 8 none
  statics := none }

def pool4 : Array CpInfo := pool [(1, u "java/io/Serializable"), (0, .class_ 1), (0, u "java/lang/Object"), (0, .class_ 3)] 3

/-- java/io/Serializable -/
def k4 : Class := { plain "java/io/Serializable" (some 0) with
  accessFlags := 1537
  interfaces := #[]
  cf := some (fileOf pool4 2 #[] #[] 1537 4 #[] #[])
  fields := #[]
  methods := #[]
  instanceTypes := #[]
  staticTypes := #[]
  resolved := Array.replicate 8 none
  statics := none }

/-- the primitive byte -/
def k5 : Class := { plain "byte" none with kind := .primitive 'B', accessFlags := 0x411 }
/-- [B -/
def k6 : Class := { plain "[B" (some 0) with kind := .array 5 .byte, interfaces := #[3, 4], accessFlags := 1041 }

/-- the primitive int -/
def k7 : Class := { plain "int" none with kind := .primitive 'I', accessFlags := 0x411 }
/-- [I -/
def k8 : Class := { plain "[I" (some 0) with kind := .array 7 .int, interfaces := #[3, 4], accessFlags := 1041 }

def heap : Heap := #[]
def classes : Array Class := #[k0, k1, k2, k3, k4, k5, k6, k7, k8]
def interned : List (Array UInt16 × Addr) := []
def slotsUsed : Nat := 0
def theMethod : MethodId := ⟨1, 2⟩
def args0 : Array Value := #[.int 65, .int 3]
def aboutOver (below : List Frame) : State where
  vm := { classes := classes, interned := interned.toArray }
  heap := heap
  slotsUsed := slotsUsed
  threads := #[{ frames := .invoking theMethod args0 :: below }]
def below0 : List Frame := [.native { method := ⟨0, 0⟩, args := #[] }]
def about1 : State := aboutOver below0
def p0 : Program := .bare "" "" ""
def e0 : Env := launch0.env 0 0 0
theorem w_frames : about1.frames = Frame.invoking theMethod args0 :: below0 := rfl
set_option maxRecDepth 65536 in
theorem w_args : argsFit about1.vm theMethod args0 = true := by decide +kernel
set_option maxRecDepth 65536 in
theorem w_heap : heapFits about1 = true := by decide +kernel
set_option maxRecDepth 65536 in
theorem w_runnable : about1.curStatus? = some .runnable := by decide +kernel
set_option maxRecDepth 65536 in
theorem w_alone : about1.alone = true := by decide +kernel
set_option maxRecDepth 65536 in
theorem w_named : about1.methodNamed? x = some theMethod := by decide +kernel
set_option maxRecDepth 65536 in
theorem w_hears : about1.hears theMethod below0 = true := by decide +kernel
set_option maxRecDepth 65536 in
theorem w_ripe : about1.ripe theMethod args0 below0 = true := by decide +kernel
theorem w_running : about1.status = .running := rfl
set_option maxRecDepth 65536 in
theorem w_room : about1.hasRoom e0.platform room_1 = true :=
  launch0.hasRoom_least _ room_1 (by decide +kernel) (by decide +kernel) (by decide +kernel) (by decide +kernel) (by decide +kernel) (by decide +kernel)
theorem allAtoms_all (ts : List Jvm.Cond) (a : Array Jvm.Value) (st : Jvm.State) : (allAtoms ts).before a st = ts.all (fun c => c.before a st) := by
  induction ts with
  | nil => rfl
  | cons c t ih =>
    show (Jvm.Cond.and c (allAtoms t)).before a st = _
    rw [Jvm.Cond.before_and, ih, List.all_cons]
def words1 : List Jvm.Cond := Jvm.Cond.code x code maxLocals ret :: tables_1
/-- a 'code' word, met by the world's own term for the bytes: nothing is compared byte by byte -/
theorem code_word {y : MethodName} {bytes : ByteArray} {mx : Nat} {rt : Option FieldType} {a : Array Value} {s : State} {m : MethodId} {meth : Method} {c : Code} (h1 : s.methodNamed? y = some m) (h2 : s.vm.method? m = some meth) (h3 : meth.code = some c) (h4 : c.code = bytes)
    (h5 : (c.maxLocals == mx && c.exceptionTable.isEmpty && decide (c.maxStack ≤ mostOperands) && decide (meth.sig.returnType = rt) && !meth.locks && decide (parseMethodDescriptor y.desc = some meth.sig)) = true) : (Jvm.Cond.code y bytes mx rt).before a s = true := by
  simp only [Bool.and_eq_true, beq_iff_eq, Bool.not_eq_true', decide_eq_true_eq] at h5
  obtain ⟨⟨⟨⟨⟨g1, g2⟩, g3⟩, g4⟩, g5⟩, g6⟩ := h5
  simp [Cond.before, Cond.holds, Cond.value, h1, h2, h3, h4, g1, g2, g3, g4, g5, g6]
def isCode : Jvm.Cond → Bool
  | .code _ _ _ _ => true
  | _ => false
theorem all_split {L : List Jvm.Cond} {P : Jvm.Cond → Bool} (h1 : L.all (fun c => isCode c || P c) = true) (h2 : ∀ c ∈ L.filter isCode, P c = true) : L.all P = true := by
  refine List.all_eq_true.mpr fun c hc => ?_
  have h := List.all_eq_true.mp h1 c hc
  rcases Bool.eq_false_or_eq_true (isCode c) with hi | hi
  · exact h2 c (List.mem_filter.mpr ⟨hc, hi⟩)
  · simpa [hi] using h
set_option maxRecDepth 65536 in
theorem w_c0 : (Jvm.Cond.code x code maxLocals ret).before args0 about1 = true := code_word (m := ⟨1, 2⟩) (meth := k1m2) (c := k1c2) (by decide +kernel) rfl rfl rfl (by decide +kernel)
set_option maxRecDepth 65536 in
theorem w_c1 : (Jvm.Cond.code ({ cls := "com/example/paths_into_automata/pathsintoautomata/io/XmlNames", name := "isChar", desc := "(I)Z" } : Jvm.MethodName) prog_251_method_2_code (1 : Nat) (Option.some Jvm.ClassFile.FieldType.boolean)).before args0 about1 = true := code_word (m := ⟨2, 1⟩) (meth := k2m1) (c := k2c1) (by decide +kernel) rfl rfl rfl (by decide +kernel)
set_option maxRecDepth 65536 in
theorem w_c2 : (Jvm.Cond.code ({ cls := "com/example/paths_into_automata/pathsintoautomata/io/XmlNamesIsCharPinLaw", name := "expected", desc := "(I)Z" } : Jvm.MethodName) method_2_code (2 : Nat) (Option.some Jvm.ClassFile.FieldType.boolean)).before args0 about1 = true := code_word (m := ⟨1, 1⟩) (meth := k1m1) (c := k1c1) (by decide +kernel) rfl rfl rfl (by decide +kernel)
def codes1 : List Jvm.Cond := [Jvm.Cond.code x code maxLocals ret, Jvm.Cond.code ({ cls := "com/example/paths_into_automata/pathsintoautomata/io/XmlNames", name := "isChar", desc := "(I)Z" } : Jvm.MethodName) prog_251_method_2_code (1 : Nat) (Option.some Jvm.ClassFile.FieldType.boolean), Jvm.Cond.code ({ cls := "com/example/paths_into_automata/pathsintoautomata/io/XmlNamesIsCharPinLaw", name := "expected", desc := "(I)Z" } : Jvm.MethodName) method_2_code (2 : Nat) (Option.some Jvm.ClassFile.FieldType.boolean)]
set_option maxRecDepth 65536 in
theorem codes_eq : words1.filter isCode = codes1 := rfl
theorem w_codes : ∀ c ∈ words1.filter isCode, c.before args0 about1 = true := by
  rw [codes_eq]
  intro c hc
  simp only [codes1, List.mem_cons, List.not_mem_nil, or_false] at hc
  rcases hc with rfl | rfl | rfl
  · exact w_c0
  · exact w_c1
  · exact w_c2
set_option maxRecDepth 65536 in
theorem w_t1 : (words1.take 24).all (fun c => isCode c || c.before args0 about1) = true := by decide +kernel
set_option maxRecDepth 65536 in
theorem w_t2 : (words1.drop 24).all (fun c => isCode c || c.before args0 about1) = true := by decide +kernel
theorem w_tables : (allAtoms (Jvm.Cond.code x code maxLocals ret :: tables_1)).before args0 about1 = true := by
  rw [allAtoms_all]
  show words1.all (fun c => c.before args0 about1) = true
  refine all_split ?_ w_codes
  rw [← List.take_append_drop 24 words1, List.all_append, w_t1, w_t2]
  rfl
set_option maxRecDepth 65536 in
theorem w_case : (Jvm.Cond.and given_1 narrow_1).before args0 about1 = true := by decide +kernel
theorem w_applies : (headSpec (Jvm.Cond.code x code maxLocals ret :: tables_1) room_1).applies x e0.platform about1 = true :=
  (Spec.applies_iff w_frames).mpr ⟨w_running, w_runnable, w_alone, w_named, w_hears, w_ripe, w_room, w_tables⟩
theorem atStart : AtStart classFile x code maxLocals ret World_1 tables_1 room_1 Calls_1 rest_1 Pre_1 launch0 p0 e0 about1 theMethod args0 below0 :=
  ⟨lists_1, trivial, launch0.admits_env _ _ _, launch0.least_env, fairChoices_fair.cas, fairChoices_fair.clock, w_frames, w_args, w_heap, w_applies, trivial, trivial, w_case⟩
end start1
theorem witness_1 : WitnessClaimed_1 := ⟨start1.p0, start1.e0, start1.about1, start1.theMethod, start1.args0, start1.below0, start1.atStart⟩
end Jvm.Pilot.@@N@@
