import JvmDerived
import JvmDerived.Pilot.@@N@@Statement
import JvmDerived.Pilot.@@N@@Code
set_option linter.unusedVariables false
set_option linter.unusedSimpArgs false
namespace Jvm.RoadKit
open Sem ClassFile Op Lib Jvm.Stand Jvm.Free Jvm.LawKit
section New
variable {p : Program} {l : Launch} {e : Env} {R : Room} {s : State} {m : MethodId} {args : Array Value} {below : List Frame} {meth : Method} {c : Code} {T : State} {locs : List Loc} {cells slots : Nat}
theorem retI (X : Stand p l e R s m args below meth c T locs cells slots) (hx : p.tables.exec = Jvm.exec) {pc : Nat} {Ls : Array Slot} {z : Int32} {rest : List Value} (hret : meth.sig.returnType = some .int) (hd : decode c.code pc = .ok (.ireturn, 1)) {fs : List Frame}
    (hl : ∀ (f : JFrame) (acts : List Action), f.method = m → f.locked = none → f.entered = [] → (doReturn e (T.setTop f) acts (some (.int z))).1 = T.setFrames fs) : Steps p.tables e below (T.setTop (mkF m pc Ls (.int z :: rest))) (T.setFrames fs) :=
  retOut X hx hret rfl (Or.inl ⟨rfl, Or.inl rfl, _, rfl⟩) hd hl
end New
end Jvm.RoadKit
namespace Jvm.Pilot.@@N@@
open Jvm Jvm.ClassFile Sem Op Lib Jvm.Free Jvm.Stand Jvm.LawKit Jvm.RoadKit Bundle Jvm.Pilot.@@N@@.Jvm.D
/-- what a body that writes nothing leaves: its value, no place written, the heap as it was -/
def PQ (w : Option Value) (h0 : Heap) (n0 : Nat) (v : Option Value) (h : Heap) (L : List Loc) : Prop := v = w ∧ Fr n0 L ∧ h = h0
theorem own_pd0 : parseMethodDescriptor "(I)Z" = some ⟨[.int], some .boolean⟩ := by decide +kernel
theorem own_d_prog_31_method_2_code_0 : decode prog_31_method_2_code 0 = .ok (.iload_n 0, 1) := by decide +kernel
theorem own_d_prog_31_method_2_code_1 : decode prog_31_method_2_code 1 = .ok (.bipush 32, 2) := by decide +kernel
theorem own_d_prog_31_method_2_code_3 : decode prog_31_method_2_code 3 = .ok (.if_icmp .ge 27, 3) := by decide +kernel
theorem own_d_prog_31_method_2_code_6 : decode prog_31_method_2_code 6 = .ok (.iload_n 0, 1) := by decide +kernel
theorem own_d_prog_31_method_2_code_7 : decode prog_31_method_2_code 7 = .ok (.bipush 9, 2) := by decide +kernel
theorem own_d_prog_31_method_2_code_9 : decode prog_31_method_2_code 9 = .ok (.if_icmp .eq 15, 3) := by decide +kernel
theorem own_d_prog_31_method_2_code_12 : decode prog_31_method_2_code 12 = .ok (.iload_n 0, 1) := by decide +kernel
theorem own_d_prog_31_method_2_code_13 : decode prog_31_method_2_code 13 = .ok (.bipush 10, 2) := by decide +kernel
theorem own_d_prog_31_method_2_code_15 : decode prog_31_method_2_code 15 = .ok (.if_icmp .eq 9, 3) := by decide +kernel
theorem own_d_prog_31_method_2_code_18 : decode prog_31_method_2_code 18 = .ok (.iload_n 0, 1) := by decide +kernel
theorem own_d_prog_31_method_2_code_19 : decode prog_31_method_2_code 19 = .ok (.bipush 13, 2) := by decide +kernel
theorem own_d_prog_31_method_2_code_21 : decode prog_31_method_2_code 21 = .ok (.if_icmp .ne 7, 3) := by decide +kernel
theorem own_d_prog_31_method_2_code_24 : decode prog_31_method_2_code 24 = .ok (.iconst 1, 1) := by decide +kernel
theorem own_d_prog_31_method_2_code_25 : decode prog_31_method_2_code 25 = .ok (.goto 4, 3) := by decide +kernel
theorem own_d_prog_31_method_2_code_28 : decode prog_31_method_2_code 28 = .ok (.iconst 0, 1) := by decide +kernel
theorem own_d_prog_31_method_2_code_29 : decode prog_31_method_2_code 29 = .ok (.ireturn, 1) := by decide +kernel
theorem own_d_prog_31_method_2_code_30 : decode prog_31_method_2_code 30 = .ok (.iload_n 0, 1) := by decide +kernel
theorem own_d_prog_31_method_2_code_31 : decode prog_31_method_2_code 31 = .ok (.ldc 58, 2) := by decide +kernel
theorem own_d_prog_31_method_2_code_33 : decode prog_31_method_2_code 33 = .ok (.if_icmp .ge 5, 3) := by decide +kernel
theorem own_d_prog_31_method_2_code_36 : decode prog_31_method_2_code 36 = .ok (.iconst 1, 1) := by decide +kernel
theorem own_d_prog_31_method_2_code_37 : decode prog_31_method_2_code 37 = .ok (.ireturn, 1) := by decide +kernel
theorem own_d_prog_31_method_2_code_38 : decode prog_31_method_2_code 38 = .ok (.iload_n 0, 1) := by decide +kernel
theorem own_d_prog_31_method_2_code_39 : decode prog_31_method_2_code 39 = .ok (.ldc 59, 2) := by decide +kernel
theorem own_d_prog_31_method_2_code_41 : decode prog_31_method_2_code 41 = .ok (.if_icmp .ge 5, 3) := by decide +kernel
theorem own_d_prog_31_method_2_code_44 : decode prog_31_method_2_code 44 = .ok (.iconst 0, 1) := by decide +kernel
theorem own_d_prog_31_method_2_code_45 : decode prog_31_method_2_code 45 = .ok (.ireturn, 1) := by decide +kernel
theorem own_d_prog_31_method_2_code_46 : decode prog_31_method_2_code 46 = .ok (.iload_n 0, 1) := by decide +kernel
theorem own_d_prog_31_method_2_code_47 : decode prog_31_method_2_code 47 = .ok (.ldc 60, 2) := by decide +kernel
theorem own_d_prog_31_method_2_code_49 : decode prog_31_method_2_code 49 = .ok (.if_icmp .eq 13, 3) := by decide +kernel
theorem own_d_prog_31_method_2_code_52 : decode prog_31_method_2_code 52 = .ok (.iload_n 0, 1) := by decide +kernel
theorem own_d_prog_31_method_2_code_53 : decode prog_31_method_2_code 53 = .ok (.ldc 61, 2) := by decide +kernel
theorem own_d_prog_31_method_2_code_55 : decode prog_31_method_2_code 55 = .ok (.if_icmp .eq 7, 3) := by decide +kernel
theorem own_d_prog_31_method_2_code_58 : decode prog_31_method_2_code 58 = .ok (.iconst 1, 1) := by decide +kernel
theorem own_d_prog_31_method_2_code_59 : decode prog_31_method_2_code 59 = .ok (.goto 4, 3) := by decide +kernel
theorem own_d_prog_31_method_2_code_62 : decode prog_31_method_2_code 62 = .ok (.iconst 0, 1) := by decide +kernel
theorem own_d_prog_31_method_2_code_63 : decode prog_31_method_2_code 63 = .ok (.ireturn, 1) := by decide +kernel
theorem own_pn0 : plainName "com/example/measurewright/measurewright/XmlWriter" = true := by first | (simp [plainName, overriddenIn]; done) | decide +kernel
theorem own_ef_rm1 (m : MethodId) (p1 : Int32) : entryFrame m #[(.int p1)] 1 = mkF m 0 #[.val (.int p1)] [] := by first | (simp [entryFrame, mkF, argsToLocals, Value.category, maxLocals]; done) | rfl
def own_f_rm1 (p1 : Int32) : Int32 := if p1 < (32 : Int32) then (if p1 = (9 : Int32) then (1 : Int32)
    else if p1 = (10 : Int32) then (1 : Int32)
      else if p1 = (13 : Int32) then (1 : Int32)
        else (0 : Int32))
  else if p1 < (55296 : Int32) then (1 : Int32)
    else if p1 < (57344 : Int32) then (0 : Int32)
      else if p1 = (65534 : Int32) then (0 : Int32)
        else if p1 = (65535 : Int32) then (0 : Int32)
          else (1 : Int32)
set_option maxRecDepth 65536 in
set_option maxHeartbeats 40000000 in
theorem rm1 (l : Launch) (Z : State) (a0 : Array Value) (hw : ∀ d ∈ tables_1, d.before a0 Z = true) (ws : List Jvm.Cond) (h0 : Heap) (n0 : Nat) (p1 : Int32)  :
    MetFree l (⟨"com/example/measurewright/measurewright/XmlWriter", "isCharacter", "(I)Z"⟩ : MethodName) (head1 (Jvm.Cond.code (⟨"com/example/measurewright/measurewright/XmlWriter", "isCharacter", "(I)Z"⟩ : MethodName) prog_31_method_2_code 1 (some .boolean) :: ws) ({ frames := 0, cells := 0, slots := 0, locals := 0 } : Room)) (fun a U => a = #[(.int p1)] ∧ Z.Warmed39 U.vm ∧ U.heap = h0) (fun _ _ _ _ _ => True) (fun _ U o U' => ∃ v L, o = .returned v ∧ (PQ (some (.int (own_f_rm1 p1))) h0 n0) v U'.heap L ∧ FrameEnd U o U' L ({ frames := 0, cells := 0, slots := 0, locals := 0 } : Room).cells ({ frames := 0, cells := 0, slots := 0, locals := 0 } : Room).slots) := by
  refine MetFree.of_bodySF (plainFor_of_name own_pn0) hisR ?_
  intro p e s m args below meth c s₁ Bd hml0 hP hK
  obtain ⟨rfl, hZ, hh⟩ := hP
  have hx := Bd.exec
  have hby := Bd.bytes
  have hml : c.maxLocals = 1 := hml0
  have hown : s.vm.findClass "com/example/measurewright/measurewright/XmlWriter" = some m.cls := findClass_of_methodNamed Bd.named
  have hnm := (name_of_methodNamed Bd.named Bd.method).1
  have X0 : Stand p l e ({ frames := 0, cells := 0, slots := 0, locals := 0 } : Room) s m #[(.int p1)] below meth c s₁ [] 0 0 := Stand.of_body Bd
  have e0 : s₁.heap = h0 := by rw [← hh, Bd.state]; rfl
  have N0 := Fr.nil n0
  have pre0 : ∀ t, Steps p.tables e below (s₁.setTop (mkF m 0 #[.val (.int p1)] [])) t → Steps p.tables e below (s₁.setTop (entryFrame m #[(.int p1)] 1)) t := fun t k => castTop (own_ef_rm1 m p1) k
  have pre1 : ∀ t, Steps p.tables e below (s₁.setTop (mkF m 3 #[.val (.int p1)] [(.int (32 : Int32)), (.int p1)])) t → Steps p.tables e below (s₁.setTop (entryFrame m #[(.int p1)] 1)) t := fun t k => pre0 t (by
    show Steps p.tables e below (s₁.setTop (mkF m 0 #[.val (.int p1)] [])) _
    refine XS.iloadN X0.here hx rfl (hb hby own_d_prog_31_method_2_code_0) rfl ?_
    show Steps p.tables e below (s₁.setTop (mkF m 1 #[.val (.int p1)] [(.int p1)])) _
    refine XS.bipush X0.here hx rfl (hb hby own_d_prog_31_method_2_code_1) ?_
    exact k)
  by_cases hc3_2 : p1 < (32 : Int32)
  · have pre3 : ∀ t, Steps p.tables e below (s₁.setTop (mkF m 9 #[.val (.int p1)] [(.int (9 : Int32)), (.int p1)])) t → Steps p.tables e below (s₁.setTop (entryFrame m #[(.int p1)] 1)) t := fun t k => pre1 t (by
      show Steps p.tables e below (s₁.setTop (mkF m 3 #[.val (.int p1)] [(.int (32 : Int32)), (.int p1)])) _
      refine XS.icmpNo X0.here hx rfl (hb hby own_d_prog_31_method_2_code_3) rfl (tlt hc3_2).2.1 ?_
      show Steps p.tables e below (s₁.setTop (mkF m 6 #[.val (.int p1)] [])) _
      refine XS.iloadN X0.here hx rfl (hb hby own_d_prog_31_method_2_code_6) rfl ?_
      show Steps p.tables e below (s₁.setTop (mkF m 7 #[.val (.int p1)] [(.int p1)])) _
      refine XS.bipush X0.here hx rfl (hb hby own_d_prog_31_method_2_code_7) ?_
      exact k)
    by_cases hc9_4 : p1 = (9 : Int32)
    · obtain ⟨fs, hr, hrun, hended, hW, hsame⟩ := X0.leave (v := some (.int (1 : Int32))) (fun h => by rw [Bd.returns] at h; cases h)
      refine ⟨_, _, pre3 _ ?_, hrun, hended, _, _, rfl, ?_, ⟨_, rfl⟩, hW, hsame.mono (by decide) (by decide)⟩
      · show Steps p.tables e below (s₁.setTop (mkF m 9 #[.val (.int p1)] [(.int (9 : Int32)), (.int p1)])) _
        refine XS.icmpYes X0.here hx rfl (pc0 := 9) (pc' := 24) rfl (hb hby own_d_prog_31_method_2_code_9) rfl (teq hc9_4).1 (by decide) (by decide) ?_
        show Steps p.tables e below (s₁.setTop (mkF m 24 #[.val (.int p1)] [])) _
        refine XS.iconst X0.here hx rfl (hb hby own_d_prog_31_method_2_code_24) ?_
        show Steps p.tables e below (s₁.setTop (mkF m 25 #[.val (.int p1)] [(.int (1 : Int32))])) _
        refine XS.goto X0.here hx rfl (pc0 := 25) (pc' := 29) rfl (hb hby own_d_prog_31_method_2_code_25) (by decide) (by decide) ?_
        show Steps p.tables e below (s₁.setTop (mkF m 29 #[.val (.int p1)] [(.int (1 : Int32))])) _
        exact retN X0 hx (t := .boolean) Bd.returns (by simp) (hb hby own_d_prog_31_method_2_code_29) hr
      · show PQ (some (.int (own_f_rm1 p1))) h0 n0 _ s₁.heap _
        rw [e0]
        exact ⟨congrArg (fun z => some (Value.int z)) (by unfold own_f_rm1; rw [if_pos hc3_2, if_pos hc9_4]), N0, rfl⟩
    · have pre5 : ∀ t, Steps p.tables e below (s₁.setTop (mkF m 15 #[.val (.int p1)] [(.int (10 : Int32)), (.int p1)])) t → Steps p.tables e below (s₁.setTop (entryFrame m #[(.int p1)] 1)) t := fun t k => pre3 t (by
        show Steps p.tables e below (s₁.setTop (mkF m 9 #[.val (.int p1)] [(.int (9 : Int32)), (.int p1)])) _
        refine XS.icmpNo X0.here hx rfl (hb hby own_d_prog_31_method_2_code_9) rfl (feq hc9_4).1 ?_
        show Steps p.tables e below (s₁.setTop (mkF m 12 #[.val (.int p1)] [])) _
        refine XS.iloadN X0.here hx rfl (hb hby own_d_prog_31_method_2_code_12) rfl ?_
        show Steps p.tables e below (s₁.setTop (mkF m 13 #[.val (.int p1)] [(.int p1)])) _
        refine XS.bipush X0.here hx rfl (hb hby own_d_prog_31_method_2_code_13) ?_
        exact k)
      by_cases hc15_6 : p1 = (10 : Int32)
      · obtain ⟨fs, hr, hrun, hended, hW, hsame⟩ := X0.leave (v := some (.int (1 : Int32))) (fun h => by rw [Bd.returns] at h; cases h)
        refine ⟨_, _, pre5 _ ?_, hrun, hended, _, _, rfl, ?_, ⟨_, rfl⟩, hW, hsame.mono (by decide) (by decide)⟩
        · show Steps p.tables e below (s₁.setTop (mkF m 15 #[.val (.int p1)] [(.int (10 : Int32)), (.int p1)])) _
          refine XS.icmpYes X0.here hx rfl (pc0 := 15) (pc' := 24) rfl (hb hby own_d_prog_31_method_2_code_15) rfl (teq hc15_6).1 (by decide) (by decide) ?_
          show Steps p.tables e below (s₁.setTop (mkF m 24 #[.val (.int p1)] [])) _
          refine XS.iconst X0.here hx rfl (hb hby own_d_prog_31_method_2_code_24) ?_
          show Steps p.tables e below (s₁.setTop (mkF m 25 #[.val (.int p1)] [(.int (1 : Int32))])) _
          refine XS.goto X0.here hx rfl (pc0 := 25) (pc' := 29) rfl (hb hby own_d_prog_31_method_2_code_25) (by decide) (by decide) ?_
          show Steps p.tables e below (s₁.setTop (mkF m 29 #[.val (.int p1)] [(.int (1 : Int32))])) _
          exact retN X0 hx (t := .boolean) Bd.returns (by simp) (hb hby own_d_prog_31_method_2_code_29) hr
        · show PQ (some (.int (own_f_rm1 p1))) h0 n0 _ s₁.heap _
          rw [e0]
          exact ⟨congrArg (fun z => some (Value.int z)) (by unfold own_f_rm1; rw [if_pos hc3_2, if_neg hc9_4, if_pos hc15_6]), N0, rfl⟩
      · have pre7 : ∀ t, Steps p.tables e below (s₁.setTop (mkF m 21 #[.val (.int p1)] [(.int (13 : Int32)), (.int p1)])) t → Steps p.tables e below (s₁.setTop (entryFrame m #[(.int p1)] 1)) t := fun t k => pre5 t (by
          show Steps p.tables e below (s₁.setTop (mkF m 15 #[.val (.int p1)] [(.int (10 : Int32)), (.int p1)])) _
          refine XS.icmpNo X0.here hx rfl (hb hby own_d_prog_31_method_2_code_15) rfl (feq hc15_6).1 ?_
          show Steps p.tables e below (s₁.setTop (mkF m 18 #[.val (.int p1)] [])) _
          refine XS.iloadN X0.here hx rfl (hb hby own_d_prog_31_method_2_code_18) rfl ?_
          show Steps p.tables e below (s₁.setTop (mkF m 19 #[.val (.int p1)] [(.int p1)])) _
          refine XS.bipush X0.here hx rfl (hb hby own_d_prog_31_method_2_code_19) ?_
          exact k)
        by_cases hc21_8 : p1 = (13 : Int32)
        · obtain ⟨fs, hr, hrun, hended, hW, hsame⟩ := X0.leave (v := some (.int (1 : Int32))) (fun h => by rw [Bd.returns] at h; cases h)
          refine ⟨_, _, pre7 _ ?_, hrun, hended, _, _, rfl, ?_, ⟨_, rfl⟩, hW, hsame.mono (by decide) (by decide)⟩
          · show Steps p.tables e below (s₁.setTop (mkF m 21 #[.val (.int p1)] [(.int (13 : Int32)), (.int p1)])) _
            refine XS.icmpNo X0.here hx rfl (hb hby own_d_prog_31_method_2_code_21) rfl (teq hc21_8).2 ?_
            show Steps p.tables e below (s₁.setTop (mkF m 24 #[.val (.int p1)] [])) _
            refine XS.iconst X0.here hx rfl (hb hby own_d_prog_31_method_2_code_24) ?_
            show Steps p.tables e below (s₁.setTop (mkF m 25 #[.val (.int p1)] [(.int (1 : Int32))])) _
            refine XS.goto X0.here hx rfl (pc0 := 25) (pc' := 29) rfl (hb hby own_d_prog_31_method_2_code_25) (by decide) (by decide) ?_
            show Steps p.tables e below (s₁.setTop (mkF m 29 #[.val (.int p1)] [(.int (1 : Int32))])) _
            exact retN X0 hx (t := .boolean) Bd.returns (by simp) (hb hby own_d_prog_31_method_2_code_29) hr
          · show PQ (some (.int (own_f_rm1 p1))) h0 n0 _ s₁.heap _
            rw [e0]
            exact ⟨congrArg (fun z => some (Value.int z)) (by unfold own_f_rm1; rw [if_pos hc3_2, if_neg hc9_4, if_neg hc15_6, if_pos hc21_8]), N0, rfl⟩
        · obtain ⟨fs, hr, hrun, hended, hW, hsame⟩ := X0.leave (v := some (.int (0 : Int32))) (fun h => by rw [Bd.returns] at h; cases h)
          refine ⟨_, _, pre7 _ ?_, hrun, hended, _, _, rfl, ?_, ⟨_, rfl⟩, hW, hsame.mono (by decide) (by decide)⟩
          · show Steps p.tables e below (s₁.setTop (mkF m 21 #[.val (.int p1)] [(.int (13 : Int32)), (.int p1)])) _
            refine XS.icmpYes X0.here hx rfl (pc0 := 21) (pc' := 28) rfl (hb hby own_d_prog_31_method_2_code_21) rfl (feq hc21_8).2 (by decide) (by decide) ?_
            show Steps p.tables e below (s₁.setTop (mkF m 28 #[.val (.int p1)] [])) _
            refine XS.iconst X0.here hx rfl (hb hby own_d_prog_31_method_2_code_28) ?_
            show Steps p.tables e below (s₁.setTop (mkF m 29 #[.val (.int p1)] [(.int (0 : Int32))])) _
            exact retN X0 hx (t := .boolean) Bd.returns (by simp) (hb hby own_d_prog_31_method_2_code_29) hr
          · show PQ (some (.int (own_f_rm1 p1))) h0 n0 _ s₁.heap _
            rw [e0]
            exact ⟨congrArg (fun z => some (Value.int z)) (by unfold own_f_rm1; rw [if_pos hc3_2, if_neg hc9_4, if_neg hc15_6, if_neg hc21_8]), N0, rfl⟩
  · have pre9 : ∀ t, Steps p.tables e below (s₁.setTop (mkF m 33 #[.val (.int p1)] [(.int (55296 : Int32)), (.int p1)])) t → Steps p.tables e below (s₁.setTop (entryFrame m #[(.int p1)] 1)) t := fun t k => pre1 t (by
      show Steps p.tables e below (s₁.setTop (mkF m 3 #[.val (.int p1)] [(.int (32 : Int32)), (.int p1)])) _
      refine XS.icmpYes X0.here hx rfl (pc0 := 3) (pc' := 30) rfl (hb hby own_d_prog_31_method_2_code_3) rfl (flt hc3_2).2.1 (by decide) (by decide) ?_
      show Steps p.tables e below (s₁.setTop (mkF m 30 #[.val (.int p1)] [])) _
      refine XS.iloadN X0.here hx rfl (hb hby own_d_prog_31_method_2_code_30) rfl ?_
      show Steps p.tables e below (s₁.setTop (mkF m 31 #[.val (.int p1)] [(.int p1)])) _
      refine X0.ldcInt hx hown (mvT hZ (hw _ (List.mem_of_getElem? (i := 11) rfl))) (g := (mkF m 31 #[.val (.int p1)] [(.int p1)])) rfl (hb hby own_d_prog_31_method_2_code_31) _ ?_
      exact k)
    by_cases hc33_10 : p1 < (55296 : Int32)
    · obtain ⟨fs, hr, hrun, hended, hW, hsame⟩ := X0.leave (v := some (.int (1 : Int32))) (fun h => by rw [Bd.returns] at h; cases h)
      refine ⟨_, _, pre9 _ ?_, hrun, hended, _, _, rfl, ?_, ⟨_, rfl⟩, hW, hsame.mono (by decide) (by decide)⟩
      · show Steps p.tables e below (s₁.setTop (mkF m 33 #[.val (.int p1)] [(.int (55296 : Int32)), (.int p1)])) _
        refine XS.icmpNo X0.here hx rfl (hb hby own_d_prog_31_method_2_code_33) rfl (tlt hc33_10).2.1 ?_
        show Steps p.tables e below (s₁.setTop (mkF m 36 #[.val (.int p1)] [])) _
        refine XS.iconst X0.here hx rfl (hb hby own_d_prog_31_method_2_code_36) ?_
        show Steps p.tables e below (s₁.setTop (mkF m 37 #[.val (.int p1)] [(.int (1 : Int32))])) _
        exact retN X0 hx (t := .boolean) Bd.returns (by simp) (hb hby own_d_prog_31_method_2_code_37) hr
      · show PQ (some (.int (own_f_rm1 p1))) h0 n0 _ s₁.heap _
        rw [e0]
        exact ⟨congrArg (fun z => some (Value.int z)) (by unfold own_f_rm1; rw [if_neg hc3_2, if_pos hc33_10]), N0, rfl⟩
    · have pre11 : ∀ t, Steps p.tables e below (s₁.setTop (mkF m 41 #[.val (.int p1)] [(.int (57344 : Int32)), (.int p1)])) t → Steps p.tables e below (s₁.setTop (entryFrame m #[(.int p1)] 1)) t := fun t k => pre9 t (by
        show Steps p.tables e below (s₁.setTop (mkF m 33 #[.val (.int p1)] [(.int (55296 : Int32)), (.int p1)])) _
        refine XS.icmpYes X0.here hx rfl (pc0 := 33) (pc' := 38) rfl (hb hby own_d_prog_31_method_2_code_33) rfl (flt hc33_10).2.1 (by decide) (by decide) ?_
        show Steps p.tables e below (s₁.setTop (mkF m 38 #[.val (.int p1)] [])) _
        refine XS.iloadN X0.here hx rfl (hb hby own_d_prog_31_method_2_code_38) rfl ?_
        show Steps p.tables e below (s₁.setTop (mkF m 39 #[.val (.int p1)] [(.int p1)])) _
        refine X0.ldcInt hx hown (mvT hZ (hw _ (List.mem_of_getElem? (i := 13) rfl))) (g := (mkF m 39 #[.val (.int p1)] [(.int p1)])) rfl (hb hby own_d_prog_31_method_2_code_39) _ ?_
        exact k)
      by_cases hc41_12 : p1 < (57344 : Int32)
      · obtain ⟨fs, hr, hrun, hended, hW, hsame⟩ := X0.leave (v := some (.int (0 : Int32))) (fun h => by rw [Bd.returns] at h; cases h)
        refine ⟨_, _, pre11 _ ?_, hrun, hended, _, _, rfl, ?_, ⟨_, rfl⟩, hW, hsame.mono (by decide) (by decide)⟩
        · show Steps p.tables e below (s₁.setTop (mkF m 41 #[.val (.int p1)] [(.int (57344 : Int32)), (.int p1)])) _
          refine XS.icmpNo X0.here hx rfl (hb hby own_d_prog_31_method_2_code_41) rfl (tlt hc41_12).2.1 ?_
          show Steps p.tables e below (s₁.setTop (mkF m 44 #[.val (.int p1)] [])) _
          refine XS.iconst X0.here hx rfl (hb hby own_d_prog_31_method_2_code_44) ?_
          show Steps p.tables e below (s₁.setTop (mkF m 45 #[.val (.int p1)] [(.int (0 : Int32))])) _
          exact retN X0 hx (t := .boolean) Bd.returns (by simp) (hb hby own_d_prog_31_method_2_code_45) hr
        · show PQ (some (.int (own_f_rm1 p1))) h0 n0 _ s₁.heap _
          rw [e0]
          exact ⟨congrArg (fun z => some (Value.int z)) (by unfold own_f_rm1; rw [if_neg hc3_2, if_neg hc33_10, if_pos hc41_12]), N0, rfl⟩
      · have pre13 : ∀ t, Steps p.tables e below (s₁.setTop (mkF m 49 #[.val (.int p1)] [(.int (65534 : Int32)), (.int p1)])) t → Steps p.tables e below (s₁.setTop (entryFrame m #[(.int p1)] 1)) t := fun t k => pre11 t (by
          show Steps p.tables e below (s₁.setTop (mkF m 41 #[.val (.int p1)] [(.int (57344 : Int32)), (.int p1)])) _
          refine XS.icmpYes X0.here hx rfl (pc0 := 41) (pc' := 46) rfl (hb hby own_d_prog_31_method_2_code_41) rfl (flt hc41_12).2.1 (by decide) (by decide) ?_
          show Steps p.tables e below (s₁.setTop (mkF m 46 #[.val (.int p1)] [])) _
          refine XS.iloadN X0.here hx rfl (hb hby own_d_prog_31_method_2_code_46) rfl ?_
          show Steps p.tables e below (s₁.setTop (mkF m 47 #[.val (.int p1)] [(.int p1)])) _
          refine X0.ldcInt hx hown (mvT hZ (hw _ (List.mem_of_getElem? (i := 14) rfl))) (g := (mkF m 47 #[.val (.int p1)] [(.int p1)])) rfl (hb hby own_d_prog_31_method_2_code_47) _ ?_
          exact k)
        by_cases hc49_14 : p1 = (65534 : Int32)
        · obtain ⟨fs, hr, hrun, hended, hW, hsame⟩ := X0.leave (v := some (.int (0 : Int32))) (fun h => by rw [Bd.returns] at h; cases h)
          refine ⟨_, _, pre13 _ ?_, hrun, hended, _, _, rfl, ?_, ⟨_, rfl⟩, hW, hsame.mono (by decide) (by decide)⟩
          · show Steps p.tables e below (s₁.setTop (mkF m 49 #[.val (.int p1)] [(.int (65534 : Int32)), (.int p1)])) _
            refine XS.icmpYes X0.here hx rfl (pc0 := 49) (pc' := 62) rfl (hb hby own_d_prog_31_method_2_code_49) rfl (teq hc49_14).1 (by decide) (by decide) ?_
            show Steps p.tables e below (s₁.setTop (mkF m 62 #[.val (.int p1)] [])) _
            refine XS.iconst X0.here hx rfl (hb hby own_d_prog_31_method_2_code_62) ?_
            show Steps p.tables e below (s₁.setTop (mkF m 63 #[.val (.int p1)] [(.int (0 : Int32))])) _
            exact retN X0 hx (t := .boolean) Bd.returns (by simp) (hb hby own_d_prog_31_method_2_code_63) hr
          · show PQ (some (.int (own_f_rm1 p1))) h0 n0 _ s₁.heap _
            rw [e0]
            exact ⟨congrArg (fun z => some (Value.int z)) (by unfold own_f_rm1; rw [if_neg hc3_2, if_neg hc33_10, if_neg hc41_12, if_pos hc49_14]), N0, rfl⟩
        · have pre15 : ∀ t, Steps p.tables e below (s₁.setTop (mkF m 55 #[.val (.int p1)] [(.int (65535 : Int32)), (.int p1)])) t → Steps p.tables e below (s₁.setTop (entryFrame m #[(.int p1)] 1)) t := fun t k => pre13 t (by
            show Steps p.tables e below (s₁.setTop (mkF m 49 #[.val (.int p1)] [(.int (65534 : Int32)), (.int p1)])) _
            refine XS.icmpNo X0.here hx rfl (hb hby own_d_prog_31_method_2_code_49) rfl (feq hc49_14).1 ?_
            show Steps p.tables e below (s₁.setTop (mkF m 52 #[.val (.int p1)] [])) _
            refine XS.iloadN X0.here hx rfl (hb hby own_d_prog_31_method_2_code_52) rfl ?_
            show Steps p.tables e below (s₁.setTop (mkF m 53 #[.val (.int p1)] [(.int p1)])) _
            refine X0.ldcInt hx hown (mvT hZ (hw _ (List.mem_of_getElem? (i := 15) rfl))) (g := (mkF m 53 #[.val (.int p1)] [(.int p1)])) rfl (hb hby own_d_prog_31_method_2_code_53) _ ?_
            exact k)
          by_cases hc55_16 : p1 = (65535 : Int32)
          · obtain ⟨fs, hr, hrun, hended, hW, hsame⟩ := X0.leave (v := some (.int (0 : Int32))) (fun h => by rw [Bd.returns] at h; cases h)
            refine ⟨_, _, pre15 _ ?_, hrun, hended, _, _, rfl, ?_, ⟨_, rfl⟩, hW, hsame.mono (by decide) (by decide)⟩
            · show Steps p.tables e below (s₁.setTop (mkF m 55 #[.val (.int p1)] [(.int (65535 : Int32)), (.int p1)])) _
              refine XS.icmpYes X0.here hx rfl (pc0 := 55) (pc' := 62) rfl (hb hby own_d_prog_31_method_2_code_55) rfl (teq hc55_16).1 (by decide) (by decide) ?_
              show Steps p.tables e below (s₁.setTop (mkF m 62 #[.val (.int p1)] [])) _
              refine XS.iconst X0.here hx rfl (hb hby own_d_prog_31_method_2_code_62) ?_
              show Steps p.tables e below (s₁.setTop (mkF m 63 #[.val (.int p1)] [(.int (0 : Int32))])) _
              exact retN X0 hx (t := .boolean) Bd.returns (by simp) (hb hby own_d_prog_31_method_2_code_63) hr
            · show PQ (some (.int (own_f_rm1 p1))) h0 n0 _ s₁.heap _
              rw [e0]
              exact ⟨congrArg (fun z => some (Value.int z)) (by unfold own_f_rm1; rw [if_neg hc3_2, if_neg hc33_10, if_neg hc41_12, if_neg hc49_14, if_pos hc55_16]), N0, rfl⟩
          · obtain ⟨fs, hr, hrun, hended, hW, hsame⟩ := X0.leave (v := some (.int (1 : Int32))) (fun h => by rw [Bd.returns] at h; cases h)
            refine ⟨_, _, pre15 _ ?_, hrun, hended, _, _, rfl, ?_, ⟨_, rfl⟩, hW, hsame.mono (by decide) (by decide)⟩
            · show Steps p.tables e below (s₁.setTop (mkF m 55 #[.val (.int p1)] [(.int (65535 : Int32)), (.int p1)])) _
              refine XS.icmpNo X0.here hx rfl (hb hby own_d_prog_31_method_2_code_55) rfl (feq hc55_16).1 ?_
              show Steps p.tables e below (s₁.setTop (mkF m 58 #[.val (.int p1)] [])) _
              refine XS.iconst X0.here hx rfl (hb hby own_d_prog_31_method_2_code_58) ?_
              show Steps p.tables e below (s₁.setTop (mkF m 59 #[.val (.int p1)] [(.int (1 : Int32))])) _
              refine XS.goto X0.here hx rfl (pc0 := 59) (pc' := 63) rfl (hb hby own_d_prog_31_method_2_code_59) (by decide) (by decide) ?_
              show Steps p.tables e below (s₁.setTop (mkF m 63 #[.val (.int p1)] [(.int (1 : Int32))])) _
              exact retN X0 hx (t := .boolean) Bd.returns (by simp) (hb hby own_d_prog_31_method_2_code_63) hr
            · show PQ (some (.int (own_f_rm1 p1))) h0 n0 _ s₁.heap _
              rw [e0]
              exact ⟨congrArg (fun z => some (Value.int z)) (by unfold own_f_rm1; rw [if_neg hc3_2, if_neg hc33_10, if_neg hc41_12, if_neg hc49_14, if_neg hc55_16]), N0, rfl⟩
theorem own_d_method_2_code_0 : decode method_2_code 0 = .ok (.iload_n 0, 1) := by decide +kernel
theorem own_d_method_2_code_1 : decode method_2_code 1 = .ok (.bipush 9, 2) := by decide +kernel
theorem own_d_method_2_code_3 : decode method_2_code 3 = .ok (.if_icmp .ne 5, 3) := by decide +kernel
theorem own_d_method_2_code_6 : decode method_2_code 6 = .ok (.iconst 1, 1) := by decide +kernel
theorem own_d_method_2_code_7 : decode method_2_code 7 = .ok (.ireturn, 1) := by decide +kernel
theorem own_d_method_2_code_8 : decode method_2_code 8 = .ok (.iload_n 0, 1) := by decide +kernel
theorem own_d_method_2_code_9 : decode method_2_code 9 = .ok (.bipush 10, 2) := by decide +kernel
theorem own_d_method_2_code_11 : decode method_2_code 11 = .ok (.if_icmp .ne 5, 3) := by decide +kernel
theorem own_d_method_2_code_14 : decode method_2_code 14 = .ok (.iconst 1, 1) := by decide +kernel
theorem own_d_method_2_code_15 : decode method_2_code 15 = .ok (.ireturn, 1) := by decide +kernel
theorem own_d_method_2_code_16 : decode method_2_code 16 = .ok (.iload_n 0, 1) := by decide +kernel
theorem own_d_method_2_code_17 : decode method_2_code 17 = .ok (.bipush 13, 2) := by decide +kernel
theorem own_d_method_2_code_19 : decode method_2_code 19 = .ok (.if_icmp .ne 5, 3) := by decide +kernel
theorem own_d_method_2_code_22 : decode method_2_code 22 = .ok (.iconst 1, 1) := by decide +kernel
theorem own_d_method_2_code_23 : decode method_2_code 23 = .ok (.ireturn, 1) := by decide +kernel
theorem own_d_method_2_code_24 : decode method_2_code 24 = .ok (.iload_n 0, 1) := by decide +kernel
theorem own_d_method_2_code_25 : decode method_2_code 25 = .ok (.bipush 32, 2) := by decide +kernel
theorem own_d_method_2_code_27 : decode method_2_code 27 = .ok (.if_icmp .lt 11, 3) := by decide +kernel
theorem own_d_method_2_code_30 : decode method_2_code 30 = .ok (.iload_n 0, 1) := by decide +kernel
theorem own_d_method_2_code_31 : decode method_2_code 31 = .ok (.ldc 7, 2) := by decide +kernel
theorem own_d_method_2_code_33 : decode method_2_code 33 = .ok (.if_icmp .gt 5, 3) := by decide +kernel
theorem own_d_method_2_code_36 : decode method_2_code 36 = .ok (.iconst 1, 1) := by decide +kernel
theorem own_d_method_2_code_37 : decode method_2_code 37 = .ok (.ireturn, 1) := by decide +kernel
theorem own_d_method_2_code_38 : decode method_2_code 38 = .ok (.iload_n 0, 1) := by decide +kernel
theorem own_d_method_2_code_39 : decode method_2_code 39 = .ok (.ldc 8, 2) := by decide +kernel
theorem own_d_method_2_code_41 : decode method_2_code 41 = .ok (.if_icmp .lt 11, 3) := by decide +kernel
theorem own_d_method_2_code_44 : decode method_2_code 44 = .ok (.iload_n 0, 1) := by decide +kernel
theorem own_d_method_2_code_45 : decode method_2_code 45 = .ok (.ldc 9, 2) := by decide +kernel
theorem own_d_method_2_code_47 : decode method_2_code 47 = .ok (.if_icmp .gt 5, 3) := by decide +kernel
theorem own_d_method_2_code_50 : decode method_2_code 50 = .ok (.iconst 1, 1) := by decide +kernel
theorem own_d_method_2_code_51 : decode method_2_code 51 = .ok (.ireturn, 1) := by decide +kernel
theorem own_d_method_2_code_52 : decode method_2_code 52 = .ok (.iload_n 0, 1) := by decide +kernel
theorem own_d_method_2_code_53 : decode method_2_code 53 = .ok (.ldc 10, 2) := by decide +kernel
theorem own_d_method_2_code_55 : decode method_2_code 55 = .ok (.if_icmp .lt 11, 3) := by decide +kernel
theorem own_d_method_2_code_58 : decode method_2_code 58 = .ok (.iload_n 0, 1) := by decide +kernel
theorem own_d_method_2_code_59 : decode method_2_code 59 = .ok (.ldc 11, 2) := by decide +kernel
theorem own_d_method_2_code_61 : decode method_2_code 61 = .ok (.if_icmp .gt 5, 3) := by decide +kernel
theorem own_d_method_2_code_64 : decode method_2_code 64 = .ok (.iconst 1, 1) := by decide +kernel
theorem own_d_method_2_code_65 : decode method_2_code 65 = .ok (.ireturn, 1) := by decide +kernel
theorem own_d_method_2_code_66 : decode method_2_code 66 = .ok (.iconst 0, 1) := by decide +kernel
theorem own_d_method_2_code_67 : decode method_2_code 67 = .ok (.ireturn, 1) := by decide +kernel
theorem own_pn1 : plainName "com/example/measurewright/measurewright/XmlWriterIsCharacterPinLaw" = true := by first | (simp [plainName, overriddenIn]; done) | decide +kernel
theorem own_ef_rm2 (m : MethodId) (p1 : Int32) : entryFrame m #[(.int p1)] 1 = mkF m 0 #[.val (.int p1)] [] := by first | (simp [entryFrame, mkF, argsToLocals, Value.category, maxLocals]; done) | rfl
def own_f_rm2 (p1 : Int32) : Int32 := if p1 = (9 : Int32) then (1 : Int32)
  else if p1 = (10 : Int32) then (1 : Int32)
    else if p1 = (13 : Int32) then (1 : Int32)
      else if p1 < (32 : Int32) then (if p1 < (57344 : Int32) then (if p1 < (65536 : Int32) then (0 : Int32)
            else if (1114111 : Int32) < p1 then (0 : Int32)
              else (1 : Int32))
          else if (65533 : Int32) < p1 then (if p1 < (65536 : Int32) then (0 : Int32)
              else if (1114111 : Int32) < p1 then (0 : Int32)
                else (1 : Int32))
            else (1 : Int32))
        else if (55295 : Int32) < p1 then (if p1 < (57344 : Int32) then (if p1 < (65536 : Int32) then (0 : Int32)
              else if (1114111 : Int32) < p1 then (0 : Int32)
                else (1 : Int32))
            else if (65533 : Int32) < p1 then (if p1 < (65536 : Int32) then (0 : Int32)
                else if (1114111 : Int32) < p1 then (0 : Int32)
                  else (1 : Int32))
              else (1 : Int32))
          else (1 : Int32)
set_option maxRecDepth 65536 in
set_option maxHeartbeats 40000000 in
theorem rm2 (l : Launch) (Z : State) (a0 : Array Value) (hw : ∀ d ∈ tables_1, d.before a0 Z = true) (ws : List Jvm.Cond) (h0 : Heap) (n0 : Nat) (p1 : Int32)  :
    MetFree l (⟨"com/example/measurewright/measurewright/XmlWriterIsCharacterPinLaw", "xmlChar", "(I)Z"⟩ : MethodName) (head1 (Jvm.Cond.code (⟨"com/example/measurewright/measurewright/XmlWriterIsCharacterPinLaw", "xmlChar", "(I)Z"⟩ : MethodName) method_2_code 1 (some .boolean) :: ws) ({ frames := 0, cells := 0, slots := 0, locals := 0 } : Room)) (fun a U => a = #[(.int p1)] ∧ Z.Warmed39 U.vm ∧ U.heap = h0) (fun _ _ _ _ _ => True) (fun _ U o U' => ∃ v L, o = .returned v ∧ (PQ (some (.int (own_f_rm2 p1))) h0 n0) v U'.heap L ∧ FrameEnd U o U' L ({ frames := 0, cells := 0, slots := 0, locals := 0 } : Room).cells ({ frames := 0, cells := 0, slots := 0, locals := 0 } : Room).slots) := by
  refine MetFree.of_bodySF (plainFor_of_name own_pn1) hisR ?_
  intro p e s m args below meth c s₁ Bd hml0 hP hK
  obtain ⟨rfl, hZ, hh⟩ := hP
  have hx := Bd.exec
  have hby := Bd.bytes
  have hml : c.maxLocals = 1 := hml0
  have hown : s.vm.findClass "com/example/measurewright/measurewright/XmlWriterIsCharacterPinLaw" = some m.cls := findClass_of_methodNamed Bd.named
  have hnm := (name_of_methodNamed Bd.named Bd.method).1
  have X0 : Stand p l e ({ frames := 0, cells := 0, slots := 0, locals := 0 } : Room) s m #[(.int p1)] below meth c s₁ [] 0 0 := Stand.of_body Bd
  have e0 : s₁.heap = h0 := by rw [← hh, Bd.state]; rfl
  have N0 := Fr.nil n0
  have pre0 : ∀ t, Steps p.tables e below (s₁.setTop (mkF m 0 #[.val (.int p1)] [])) t → Steps p.tables e below (s₁.setTop (entryFrame m #[(.int p1)] 1)) t := fun t k => castTop (own_ef_rm2 m p1) k
  have pre17 : ∀ t, Steps p.tables e below (s₁.setTop (mkF m 3 #[.val (.int p1)] [(.int (9 : Int32)), (.int p1)])) t → Steps p.tables e below (s₁.setTop (entryFrame m #[(.int p1)] 1)) t := fun t k => pre0 t (by
    show Steps p.tables e below (s₁.setTop (mkF m 0 #[.val (.int p1)] [])) _
    refine XS.iloadN X0.here hx rfl (hb hby own_d_method_2_code_0) rfl ?_
    show Steps p.tables e below (s₁.setTop (mkF m 1 #[.val (.int p1)] [(.int p1)])) _
    refine XS.bipush X0.here hx rfl (hb hby own_d_method_2_code_1) ?_
    exact k)
  by_cases hc3_18 : p1 = (9 : Int32)
  · obtain ⟨fs, hr, hrun, hended, hW, hsame⟩ := X0.leave (v := some (.int (1 : Int32))) (fun h => by rw [Bd.returns] at h; cases h)
    refine ⟨_, _, pre17 _ ?_, hrun, hended, _, _, rfl, ?_, ⟨_, rfl⟩, hW, hsame.mono (by decide) (by decide)⟩
    · show Steps p.tables e below (s₁.setTop (mkF m 3 #[.val (.int p1)] [(.int (9 : Int32)), (.int p1)])) _
      refine XS.icmpNo X0.here hx rfl (hb hby own_d_method_2_code_3) rfl (teq hc3_18).2 ?_
      show Steps p.tables e below (s₁.setTop (mkF m 6 #[.val (.int p1)] [])) _
      refine XS.iconst X0.here hx rfl (hb hby own_d_method_2_code_6) ?_
      show Steps p.tables e below (s₁.setTop (mkF m 7 #[.val (.int p1)] [(.int (1 : Int32))])) _
      exact retN X0 hx (t := .boolean) Bd.returns (by simp) (hb hby own_d_method_2_code_7) hr
    · show PQ (some (.int (own_f_rm2 p1))) h0 n0 _ s₁.heap _
      rw [e0]
      exact ⟨congrArg (fun z => some (Value.int z)) (by unfold own_f_rm2; rw [if_pos hc3_18]), N0, rfl⟩
  · have pre19 : ∀ t, Steps p.tables e below (s₁.setTop (mkF m 11 #[.val (.int p1)] [(.int (10 : Int32)), (.int p1)])) t → Steps p.tables e below (s₁.setTop (entryFrame m #[(.int p1)] 1)) t := fun t k => pre17 t (by
      show Steps p.tables e below (s₁.setTop (mkF m 3 #[.val (.int p1)] [(.int (9 : Int32)), (.int p1)])) _
      refine XS.icmpYes X0.here hx rfl (pc0 := 3) (pc' := 8) rfl (hb hby own_d_method_2_code_3) rfl (feq hc3_18).2 (by decide) (by decide) ?_
      show Steps p.tables e below (s₁.setTop (mkF m 8 #[.val (.int p1)] [])) _
      refine XS.iloadN X0.here hx rfl (hb hby own_d_method_2_code_8) rfl ?_
      show Steps p.tables e below (s₁.setTop (mkF m 9 #[.val (.int p1)] [(.int p1)])) _
      refine XS.bipush X0.here hx rfl (hb hby own_d_method_2_code_9) ?_
      exact k)
    by_cases hc11_20 : p1 = (10 : Int32)
    · obtain ⟨fs, hr, hrun, hended, hW, hsame⟩ := X0.leave (v := some (.int (1 : Int32))) (fun h => by rw [Bd.returns] at h; cases h)
      refine ⟨_, _, pre19 _ ?_, hrun, hended, _, _, rfl, ?_, ⟨_, rfl⟩, hW, hsame.mono (by decide) (by decide)⟩
      · show Steps p.tables e below (s₁.setTop (mkF m 11 #[.val (.int p1)] [(.int (10 : Int32)), (.int p1)])) _
        refine XS.icmpNo X0.here hx rfl (hb hby own_d_method_2_code_11) rfl (teq hc11_20).2 ?_
        show Steps p.tables e below (s₁.setTop (mkF m 14 #[.val (.int p1)] [])) _
        refine XS.iconst X0.here hx rfl (hb hby own_d_method_2_code_14) ?_
        show Steps p.tables e below (s₁.setTop (mkF m 15 #[.val (.int p1)] [(.int (1 : Int32))])) _
        exact retN X0 hx (t := .boolean) Bd.returns (by simp) (hb hby own_d_method_2_code_15) hr
      · show PQ (some (.int (own_f_rm2 p1))) h0 n0 _ s₁.heap _
        rw [e0]
        exact ⟨congrArg (fun z => some (Value.int z)) (by unfold own_f_rm2; rw [if_neg hc3_18, if_pos hc11_20]), N0, rfl⟩
    · have pre21 : ∀ t, Steps p.tables e below (s₁.setTop (mkF m 19 #[.val (.int p1)] [(.int (13 : Int32)), (.int p1)])) t → Steps p.tables e below (s₁.setTop (entryFrame m #[(.int p1)] 1)) t := fun t k => pre19 t (by
        show Steps p.tables e below (s₁.setTop (mkF m 11 #[.val (.int p1)] [(.int (10 : Int32)), (.int p1)])) _
        refine XS.icmpYes X0.here hx rfl (pc0 := 11) (pc' := 16) rfl (hb hby own_d_method_2_code_11) rfl (feq hc11_20).2 (by decide) (by decide) ?_
        show Steps p.tables e below (s₁.setTop (mkF m 16 #[.val (.int p1)] [])) _
        refine XS.iloadN X0.here hx rfl (hb hby own_d_method_2_code_16) rfl ?_
        show Steps p.tables e below (s₁.setTop (mkF m 17 #[.val (.int p1)] [(.int p1)])) _
        refine XS.bipush X0.here hx rfl (hb hby own_d_method_2_code_17) ?_
        exact k)
      by_cases hc19_22 : p1 = (13 : Int32)
      · obtain ⟨fs, hr, hrun, hended, hW, hsame⟩ := X0.leave (v := some (.int (1 : Int32))) (fun h => by rw [Bd.returns] at h; cases h)
        refine ⟨_, _, pre21 _ ?_, hrun, hended, _, _, rfl, ?_, ⟨_, rfl⟩, hW, hsame.mono (by decide) (by decide)⟩
        · show Steps p.tables e below (s₁.setTop (mkF m 19 #[.val (.int p1)] [(.int (13 : Int32)), (.int p1)])) _
          refine XS.icmpNo X0.here hx rfl (hb hby own_d_method_2_code_19) rfl (teq hc19_22).2 ?_
          show Steps p.tables e below (s₁.setTop (mkF m 22 #[.val (.int p1)] [])) _
          refine XS.iconst X0.here hx rfl (hb hby own_d_method_2_code_22) ?_
          show Steps p.tables e below (s₁.setTop (mkF m 23 #[.val (.int p1)] [(.int (1 : Int32))])) _
          exact retN X0 hx (t := .boolean) Bd.returns (by simp) (hb hby own_d_method_2_code_23) hr
        · show PQ (some (.int (own_f_rm2 p1))) h0 n0 _ s₁.heap _
          rw [e0]
          exact ⟨congrArg (fun z => some (Value.int z)) (by unfold own_f_rm2; rw [if_neg hc3_18, if_neg hc11_20, if_pos hc19_22]), N0, rfl⟩
      · have pre23 : ∀ t, Steps p.tables e below (s₁.setTop (mkF m 27 #[.val (.int p1)] [(.int (32 : Int32)), (.int p1)])) t → Steps p.tables e below (s₁.setTop (entryFrame m #[(.int p1)] 1)) t := fun t k => pre21 t (by
          show Steps p.tables e below (s₁.setTop (mkF m 19 #[.val (.int p1)] [(.int (13 : Int32)), (.int p1)])) _
          refine XS.icmpYes X0.here hx rfl (pc0 := 19) (pc' := 24) rfl (hb hby own_d_method_2_code_19) rfl (feq hc19_22).2 (by decide) (by decide) ?_
          show Steps p.tables e below (s₁.setTop (mkF m 24 #[.val (.int p1)] [])) _
          refine XS.iloadN X0.here hx rfl (hb hby own_d_method_2_code_24) rfl ?_
          show Steps p.tables e below (s₁.setTop (mkF m 25 #[.val (.int p1)] [(.int p1)])) _
          refine XS.bipush X0.here hx rfl (hb hby own_d_method_2_code_25) ?_
          exact k)
        by_cases hc27_24 : p1 < (32 : Int32)
        · have pre25 : ∀ t, Steps p.tables e below (s₁.setTop (mkF m 41 #[.val (.int p1)] [(.int (57344 : Int32)), (.int p1)])) t → Steps p.tables e below (s₁.setTop (entryFrame m #[(.int p1)] 1)) t := fun t k => pre23 t (by
            show Steps p.tables e below (s₁.setTop (mkF m 27 #[.val (.int p1)] [(.int (32 : Int32)), (.int p1)])) _
            refine XS.icmpYes X0.here hx rfl (pc0 := 27) (pc' := 38) rfl (hb hby own_d_method_2_code_27) rfl (tlt hc27_24).1 (by decide) (by decide) ?_
            show Steps p.tables e below (s₁.setTop (mkF m 38 #[.val (.int p1)] [])) _
            refine XS.iloadN X0.here hx rfl (hb hby own_d_method_2_code_38) rfl ?_
            show Steps p.tables e below (s₁.setTop (mkF m 39 #[.val (.int p1)] [(.int p1)])) _
            refine X0.ldcInt hx hown (mvT hZ (hw _ (List.mem_of_getElem? (i := 9) rfl))) (g := (mkF m 39 #[.val (.int p1)] [(.int p1)])) rfl (hb hby own_d_method_2_code_39) _ ?_
            exact k)
          by_cases hc41_26 : p1 < (57344 : Int32)
          · have pre27 : ∀ t, Steps p.tables e below (s₁.setTop (mkF m 55 #[.val (.int p1)] [(.int (65536 : Int32)), (.int p1)])) t → Steps p.tables e below (s₁.setTop (entryFrame m #[(.int p1)] 1)) t := fun t k => pre25 t (by
              show Steps p.tables e below (s₁.setTop (mkF m 41 #[.val (.int p1)] [(.int (57344 : Int32)), (.int p1)])) _
              refine XS.icmpYes X0.here hx rfl (pc0 := 41) (pc' := 52) rfl (hb hby own_d_method_2_code_41) rfl (tlt hc41_26).1 (by decide) (by decide) ?_
              show Steps p.tables e below (s₁.setTop (mkF m 52 #[.val (.int p1)] [])) _
              refine XS.iloadN X0.here hx rfl (hb hby own_d_method_2_code_52) rfl ?_
              show Steps p.tables e below (s₁.setTop (mkF m 53 #[.val (.int p1)] [(.int p1)])) _
              refine X0.ldcInt hx hown (mvT hZ (hw _ (List.mem_of_getElem? (i := 10) rfl))) (g := (mkF m 53 #[.val (.int p1)] [(.int p1)])) rfl (hb hby own_d_method_2_code_53) _ ?_
              exact k)
            by_cases hc55_28 : p1 < (65536 : Int32)
            · obtain ⟨fs, hr, hrun, hended, hW, hsame⟩ := X0.leave (v := some (.int (0 : Int32))) (fun h => by rw [Bd.returns] at h; cases h)
              refine ⟨_, _, pre27 _ ?_, hrun, hended, _, _, rfl, ?_, ⟨_, rfl⟩, hW, hsame.mono (by decide) (by decide)⟩
              · show Steps p.tables e below (s₁.setTop (mkF m 55 #[.val (.int p1)] [(.int (65536 : Int32)), (.int p1)])) _
                refine XS.icmpYes X0.here hx rfl (pc0 := 55) (pc' := 66) rfl (hb hby own_d_method_2_code_55) rfl (tlt hc55_28).1 (by decide) (by decide) ?_
                show Steps p.tables e below (s₁.setTop (mkF m 66 #[.val (.int p1)] [])) _
                refine XS.iconst X0.here hx rfl (hb hby own_d_method_2_code_66) ?_
                show Steps p.tables e below (s₁.setTop (mkF m 67 #[.val (.int p1)] [(.int (0 : Int32))])) _
                exact retN X0 hx (t := .boolean) Bd.returns (by simp) (hb hby own_d_method_2_code_67) hr
              · show PQ (some (.int (own_f_rm2 p1))) h0 n0 _ s₁.heap _
                rw [e0]
                exact ⟨congrArg (fun z => some (Value.int z)) (by unfold own_f_rm2; rw [if_neg hc3_18, if_neg hc11_20, if_neg hc19_22, if_pos hc27_24, if_pos hc41_26, if_pos hc55_28]), N0, rfl⟩
            · have pre29 : ∀ t, Steps p.tables e below (s₁.setTop (mkF m 61 #[.val (.int p1)] [(.int (1114111 : Int32)), (.int p1)])) t → Steps p.tables e below (s₁.setTop (entryFrame m #[(.int p1)] 1)) t := fun t k => pre27 t (by
                show Steps p.tables e below (s₁.setTop (mkF m 55 #[.val (.int p1)] [(.int (65536 : Int32)), (.int p1)])) _
                refine XS.icmpNo X0.here hx rfl (hb hby own_d_method_2_code_55) rfl (flt hc55_28).1 ?_
                show Steps p.tables e below (s₁.setTop (mkF m 58 #[.val (.int p1)] [])) _
                refine XS.iloadN X0.here hx rfl (hb hby own_d_method_2_code_58) rfl ?_
                show Steps p.tables e below (s₁.setTop (mkF m 59 #[.val (.int p1)] [(.int p1)])) _
                refine X0.ldcInt hx hown (mvT hZ (hw _ (List.mem_of_getElem? (i := 17) rfl))) (g := (mkF m 59 #[.val (.int p1)] [(.int p1)])) rfl (hb hby own_d_method_2_code_59) _ ?_
                exact k)
              by_cases hc61_30 : (1114111 : Int32) < p1
              · obtain ⟨fs, hr, hrun, hended, hW, hsame⟩ := X0.leave (v := some (.int (0 : Int32))) (fun h => by rw [Bd.returns] at h; cases h)
                refine ⟨_, _, pre29 _ ?_, hrun, hended, _, _, rfl, ?_, ⟨_, rfl⟩, hW, hsame.mono (by decide) (by decide)⟩
                · show Steps p.tables e below (s₁.setTop (mkF m 61 #[.val (.int p1)] [(.int (1114111 : Int32)), (.int p1)])) _
                  refine XS.icmpYes X0.here hx rfl (pc0 := 61) (pc' := 66) rfl (hb hby own_d_method_2_code_61) rfl (tlt hc61_30).2.2.1 (by decide) (by decide) ?_
                  show Steps p.tables e below (s₁.setTop (mkF m 66 #[.val (.int p1)] [])) _
                  refine XS.iconst X0.here hx rfl (hb hby own_d_method_2_code_66) ?_
                  show Steps p.tables e below (s₁.setTop (mkF m 67 #[.val (.int p1)] [(.int (0 : Int32))])) _
                  exact retN X0 hx (t := .boolean) Bd.returns (by simp) (hb hby own_d_method_2_code_67) hr
                · show PQ (some (.int (own_f_rm2 p1))) h0 n0 _ s₁.heap _
                  rw [e0]
                  exact ⟨congrArg (fun z => some (Value.int z)) (by unfold own_f_rm2; rw [if_neg hc3_18, if_neg hc11_20, if_neg hc19_22, if_pos hc27_24, if_pos hc41_26, if_neg hc55_28, if_pos hc61_30]), N0, rfl⟩
              · obtain ⟨fs, hr, hrun, hended, hW, hsame⟩ := X0.leave (v := some (.int (1 : Int32))) (fun h => by rw [Bd.returns] at h; cases h)
                refine ⟨_, _, pre29 _ ?_, hrun, hended, _, _, rfl, ?_, ⟨_, rfl⟩, hW, hsame.mono (by decide) (by decide)⟩
                · show Steps p.tables e below (s₁.setTop (mkF m 61 #[.val (.int p1)] [(.int (1114111 : Int32)), (.int p1)])) _
                  refine XS.icmpNo X0.here hx rfl (hb hby own_d_method_2_code_61) rfl (flt hc61_30).2.2.1 ?_
                  show Steps p.tables e below (s₁.setTop (mkF m 64 #[.val (.int p1)] [])) _
                  refine XS.iconst X0.here hx rfl (hb hby own_d_method_2_code_64) ?_
                  show Steps p.tables e below (s₁.setTop (mkF m 65 #[.val (.int p1)] [(.int (1 : Int32))])) _
                  exact retN X0 hx (t := .boolean) Bd.returns (by simp) (hb hby own_d_method_2_code_65) hr
                · show PQ (some (.int (own_f_rm2 p1))) h0 n0 _ s₁.heap _
                  rw [e0]
                  exact ⟨congrArg (fun z => some (Value.int z)) (by unfold own_f_rm2; rw [if_neg hc3_18, if_neg hc11_20, if_neg hc19_22, if_pos hc27_24, if_pos hc41_26, if_neg hc55_28, if_neg hc61_30]), N0, rfl⟩
          · have pre31 : ∀ t, Steps p.tables e below (s₁.setTop (mkF m 47 #[.val (.int p1)] [(.int (65533 : Int32)), (.int p1)])) t → Steps p.tables e below (s₁.setTop (entryFrame m #[(.int p1)] 1)) t := fun t k => pre25 t (by
              show Steps p.tables e below (s₁.setTop (mkF m 41 #[.val (.int p1)] [(.int (57344 : Int32)), (.int p1)])) _
              refine XS.icmpNo X0.here hx rfl (hb hby own_d_method_2_code_41) rfl (flt hc41_26).1 ?_
              show Steps p.tables e below (s₁.setTop (mkF m 44 #[.val (.int p1)] [])) _
              refine XS.iloadN X0.here hx rfl (hb hby own_d_method_2_code_44) rfl ?_
              show Steps p.tables e below (s₁.setTop (mkF m 45 #[.val (.int p1)] [(.int p1)])) _
              refine X0.ldcInt hx hown (mvT hZ (hw _ (List.mem_of_getElem? (i := 16) rfl))) (g := (mkF m 45 #[.val (.int p1)] [(.int p1)])) rfl (hb hby own_d_method_2_code_45) _ ?_
              exact k)
            by_cases hc47_32 : (65533 : Int32) < p1
            · have pre33 : ∀ t, Steps p.tables e below (s₁.setTop (mkF m 55 #[.val (.int p1)] [(.int (65536 : Int32)), (.int p1)])) t → Steps p.tables e below (s₁.setTop (entryFrame m #[(.int p1)] 1)) t := fun t k => pre31 t (by
                show Steps p.tables e below (s₁.setTop (mkF m 47 #[.val (.int p1)] [(.int (65533 : Int32)), (.int p1)])) _
                refine XS.icmpYes X0.here hx rfl (pc0 := 47) (pc' := 52) rfl (hb hby own_d_method_2_code_47) rfl (tlt hc47_32).2.2.1 (by decide) (by decide) ?_
                show Steps p.tables e below (s₁.setTop (mkF m 52 #[.val (.int p1)] [])) _
                refine XS.iloadN X0.here hx rfl (hb hby own_d_method_2_code_52) rfl ?_
                show Steps p.tables e below (s₁.setTop (mkF m 53 #[.val (.int p1)] [(.int p1)])) _
                refine X0.ldcInt hx hown (mvT hZ (hw _ (List.mem_of_getElem? (i := 10) rfl))) (g := (mkF m 53 #[.val (.int p1)] [(.int p1)])) rfl (hb hby own_d_method_2_code_53) _ ?_
                exact k)
              by_cases hc55_34 : p1 < (65536 : Int32)
              · obtain ⟨fs, hr, hrun, hended, hW, hsame⟩ := X0.leave (v := some (.int (0 : Int32))) (fun h => by rw [Bd.returns] at h; cases h)
                refine ⟨_, _, pre33 _ ?_, hrun, hended, _, _, rfl, ?_, ⟨_, rfl⟩, hW, hsame.mono (by decide) (by decide)⟩
                · show Steps p.tables e below (s₁.setTop (mkF m 55 #[.val (.int p1)] [(.int (65536 : Int32)), (.int p1)])) _
                  refine XS.icmpYes X0.here hx rfl (pc0 := 55) (pc' := 66) rfl (hb hby own_d_method_2_code_55) rfl (tlt hc55_34).1 (by decide) (by decide) ?_
                  show Steps p.tables e below (s₁.setTop (mkF m 66 #[.val (.int p1)] [])) _
                  refine XS.iconst X0.here hx rfl (hb hby own_d_method_2_code_66) ?_
                  show Steps p.tables e below (s₁.setTop (mkF m 67 #[.val (.int p1)] [(.int (0 : Int32))])) _
                  exact retN X0 hx (t := .boolean) Bd.returns (by simp) (hb hby own_d_method_2_code_67) hr
                · show PQ (some (.int (own_f_rm2 p1))) h0 n0 _ s₁.heap _
                  rw [e0]
                  exact ⟨congrArg (fun z => some (Value.int z)) (by unfold own_f_rm2; rw [if_neg hc3_18, if_neg hc11_20, if_neg hc19_22, if_pos hc27_24, if_neg hc41_26, if_pos hc47_32, if_pos hc55_34]), N0, rfl⟩
              · have pre35 : ∀ t, Steps p.tables e below (s₁.setTop (mkF m 61 #[.val (.int p1)] [(.int (1114111 : Int32)), (.int p1)])) t → Steps p.tables e below (s₁.setTop (entryFrame m #[(.int p1)] 1)) t := fun t k => pre33 t (by
                  show Steps p.tables e below (s₁.setTop (mkF m 55 #[.val (.int p1)] [(.int (65536 : Int32)), (.int p1)])) _
                  refine XS.icmpNo X0.here hx rfl (hb hby own_d_method_2_code_55) rfl (flt hc55_34).1 ?_
                  show Steps p.tables e below (s₁.setTop (mkF m 58 #[.val (.int p1)] [])) _
                  refine XS.iloadN X0.here hx rfl (hb hby own_d_method_2_code_58) rfl ?_
                  show Steps p.tables e below (s₁.setTop (mkF m 59 #[.val (.int p1)] [(.int p1)])) _
                  refine X0.ldcInt hx hown (mvT hZ (hw _ (List.mem_of_getElem? (i := 17) rfl))) (g := (mkF m 59 #[.val (.int p1)] [(.int p1)])) rfl (hb hby own_d_method_2_code_59) _ ?_
                  exact k)
                by_cases hc61_36 : (1114111 : Int32) < p1
                · obtain ⟨fs, hr, hrun, hended, hW, hsame⟩ := X0.leave (v := some (.int (0 : Int32))) (fun h => by rw [Bd.returns] at h; cases h)
                  refine ⟨_, _, pre35 _ ?_, hrun, hended, _, _, rfl, ?_, ⟨_, rfl⟩, hW, hsame.mono (by decide) (by decide)⟩
                  · show Steps p.tables e below (s₁.setTop (mkF m 61 #[.val (.int p1)] [(.int (1114111 : Int32)), (.int p1)])) _
                    refine XS.icmpYes X0.here hx rfl (pc0 := 61) (pc' := 66) rfl (hb hby own_d_method_2_code_61) rfl (tlt hc61_36).2.2.1 (by decide) (by decide) ?_
                    show Steps p.tables e below (s₁.setTop (mkF m 66 #[.val (.int p1)] [])) _
                    refine XS.iconst X0.here hx rfl (hb hby own_d_method_2_code_66) ?_
                    show Steps p.tables e below (s₁.setTop (mkF m 67 #[.val (.int p1)] [(.int (0 : Int32))])) _
                    exact retN X0 hx (t := .boolean) Bd.returns (by simp) (hb hby own_d_method_2_code_67) hr
                  · show PQ (some (.int (own_f_rm2 p1))) h0 n0 _ s₁.heap _
                    rw [e0]
                    exact ⟨congrArg (fun z => some (Value.int z)) (by unfold own_f_rm2; rw [if_neg hc3_18, if_neg hc11_20, if_neg hc19_22, if_pos hc27_24, if_neg hc41_26, if_pos hc47_32, if_neg hc55_34, if_pos hc61_36]), N0, rfl⟩
                · obtain ⟨fs, hr, hrun, hended, hW, hsame⟩ := X0.leave (v := some (.int (1 : Int32))) (fun h => by rw [Bd.returns] at h; cases h)
                  refine ⟨_, _, pre35 _ ?_, hrun, hended, _, _, rfl, ?_, ⟨_, rfl⟩, hW, hsame.mono (by decide) (by decide)⟩
                  · show Steps p.tables e below (s₁.setTop (mkF m 61 #[.val (.int p1)] [(.int (1114111 : Int32)), (.int p1)])) _
                    refine XS.icmpNo X0.here hx rfl (hb hby own_d_method_2_code_61) rfl (flt hc61_36).2.2.1 ?_
                    show Steps p.tables e below (s₁.setTop (mkF m 64 #[.val (.int p1)] [])) _
                    refine XS.iconst X0.here hx rfl (hb hby own_d_method_2_code_64) ?_
                    show Steps p.tables e below (s₁.setTop (mkF m 65 #[.val (.int p1)] [(.int (1 : Int32))])) _
                    exact retN X0 hx (t := .boolean) Bd.returns (by simp) (hb hby own_d_method_2_code_65) hr
                  · show PQ (some (.int (own_f_rm2 p1))) h0 n0 _ s₁.heap _
                    rw [e0]
                    exact ⟨congrArg (fun z => some (Value.int z)) (by unfold own_f_rm2; rw [if_neg hc3_18, if_neg hc11_20, if_neg hc19_22, if_pos hc27_24, if_neg hc41_26, if_pos hc47_32, if_neg hc55_34, if_neg hc61_36]), N0, rfl⟩
            · obtain ⟨fs, hr, hrun, hended, hW, hsame⟩ := X0.leave (v := some (.int (1 : Int32))) (fun h => by rw [Bd.returns] at h; cases h)
              refine ⟨_, _, pre31 _ ?_, hrun, hended, _, _, rfl, ?_, ⟨_, rfl⟩, hW, hsame.mono (by decide) (by decide)⟩
              · show Steps p.tables e below (s₁.setTop (mkF m 47 #[.val (.int p1)] [(.int (65533 : Int32)), (.int p1)])) _
                refine XS.icmpNo X0.here hx rfl (hb hby own_d_method_2_code_47) rfl (flt hc47_32).2.2.1 ?_
                show Steps p.tables e below (s₁.setTop (mkF m 50 #[.val (.int p1)] [])) _
                refine XS.iconst X0.here hx rfl (hb hby own_d_method_2_code_50) ?_
                show Steps p.tables e below (s₁.setTop (mkF m 51 #[.val (.int p1)] [(.int (1 : Int32))])) _
                exact retN X0 hx (t := .boolean) Bd.returns (by simp) (hb hby own_d_method_2_code_51) hr
              · show PQ (some (.int (own_f_rm2 p1))) h0 n0 _ s₁.heap _
                rw [e0]
                exact ⟨congrArg (fun z => some (Value.int z)) (by unfold own_f_rm2; rw [if_neg hc3_18, if_neg hc11_20, if_neg hc19_22, if_pos hc27_24, if_neg hc41_26, if_neg hc47_32]), N0, rfl⟩
        · have pre37 : ∀ t, Steps p.tables e below (s₁.setTop (mkF m 33 #[.val (.int p1)] [(.int (55295 : Int32)), (.int p1)])) t → Steps p.tables e below (s₁.setTop (entryFrame m #[(.int p1)] 1)) t := fun t k => pre23 t (by
            show Steps p.tables e below (s₁.setTop (mkF m 27 #[.val (.int p1)] [(.int (32 : Int32)), (.int p1)])) _
            refine XS.icmpNo X0.here hx rfl (hb hby own_d_method_2_code_27) rfl (flt hc27_24).1 ?_
            show Steps p.tables e below (s₁.setTop (mkF m 30 #[.val (.int p1)] [])) _
            refine XS.iloadN X0.here hx rfl (hb hby own_d_method_2_code_30) rfl ?_
            show Steps p.tables e below (s₁.setTop (mkF m 31 #[.val (.int p1)] [(.int p1)])) _
            refine X0.ldcInt hx hown (mvT hZ (hw _ (List.mem_of_getElem? (i := 12) rfl))) (g := (mkF m 31 #[.val (.int p1)] [(.int p1)])) rfl (hb hby own_d_method_2_code_31) _ ?_
            exact k)
          by_cases hc33_38 : (55295 : Int32) < p1
          · have pre39 : ∀ t, Steps p.tables e below (s₁.setTop (mkF m 41 #[.val (.int p1)] [(.int (57344 : Int32)), (.int p1)])) t → Steps p.tables e below (s₁.setTop (entryFrame m #[(.int p1)] 1)) t := fun t k => pre37 t (by
              show Steps p.tables e below (s₁.setTop (mkF m 33 #[.val (.int p1)] [(.int (55295 : Int32)), (.int p1)])) _
              refine XS.icmpYes X0.here hx rfl (pc0 := 33) (pc' := 38) rfl (hb hby own_d_method_2_code_33) rfl (tlt hc33_38).2.2.1 (by decide) (by decide) ?_
              show Steps p.tables e below (s₁.setTop (mkF m 38 #[.val (.int p1)] [])) _
              refine XS.iloadN X0.here hx rfl (hb hby own_d_method_2_code_38) rfl ?_
              show Steps p.tables e below (s₁.setTop (mkF m 39 #[.val (.int p1)] [(.int p1)])) _
              refine X0.ldcInt hx hown (mvT hZ (hw _ (List.mem_of_getElem? (i := 9) rfl))) (g := (mkF m 39 #[.val (.int p1)] [(.int p1)])) rfl (hb hby own_d_method_2_code_39) _ ?_
              exact k)
            by_cases hc41_40 : p1 < (57344 : Int32)
            · have pre41 : ∀ t, Steps p.tables e below (s₁.setTop (mkF m 55 #[.val (.int p1)] [(.int (65536 : Int32)), (.int p1)])) t → Steps p.tables e below (s₁.setTop (entryFrame m #[(.int p1)] 1)) t := fun t k => pre39 t (by
                show Steps p.tables e below (s₁.setTop (mkF m 41 #[.val (.int p1)] [(.int (57344 : Int32)), (.int p1)])) _
                refine XS.icmpYes X0.here hx rfl (pc0 := 41) (pc' := 52) rfl (hb hby own_d_method_2_code_41) rfl (tlt hc41_40).1 (by decide) (by decide) ?_
                show Steps p.tables e below (s₁.setTop (mkF m 52 #[.val (.int p1)] [])) _
                refine XS.iloadN X0.here hx rfl (hb hby own_d_method_2_code_52) rfl ?_
                show Steps p.tables e below (s₁.setTop (mkF m 53 #[.val (.int p1)] [(.int p1)])) _
                refine X0.ldcInt hx hown (mvT hZ (hw _ (List.mem_of_getElem? (i := 10) rfl))) (g := (mkF m 53 #[.val (.int p1)] [(.int p1)])) rfl (hb hby own_d_method_2_code_53) _ ?_
                exact k)
              by_cases hc55_42 : p1 < (65536 : Int32)
              · obtain ⟨fs, hr, hrun, hended, hW, hsame⟩ := X0.leave (v := some (.int (0 : Int32))) (fun h => by rw [Bd.returns] at h; cases h)
                refine ⟨_, _, pre41 _ ?_, hrun, hended, _, _, rfl, ?_, ⟨_, rfl⟩, hW, hsame.mono (by decide) (by decide)⟩
                · show Steps p.tables e below (s₁.setTop (mkF m 55 #[.val (.int p1)] [(.int (65536 : Int32)), (.int p1)])) _
                  refine XS.icmpYes X0.here hx rfl (pc0 := 55) (pc' := 66) rfl (hb hby own_d_method_2_code_55) rfl (tlt hc55_42).1 (by decide) (by decide) ?_
                  show Steps p.tables e below (s₁.setTop (mkF m 66 #[.val (.int p1)] [])) _
                  refine XS.iconst X0.here hx rfl (hb hby own_d_method_2_code_66) ?_
                  show Steps p.tables e below (s₁.setTop (mkF m 67 #[.val (.int p1)] [(.int (0 : Int32))])) _
                  exact retN X0 hx (t := .boolean) Bd.returns (by simp) (hb hby own_d_method_2_code_67) hr
                · show PQ (some (.int (own_f_rm2 p1))) h0 n0 _ s₁.heap _
                  rw [e0]
                  exact ⟨congrArg (fun z => some (Value.int z)) (by unfold own_f_rm2; rw [if_neg hc3_18, if_neg hc11_20, if_neg hc19_22, if_neg hc27_24, if_pos hc33_38, if_pos hc41_40, if_pos hc55_42]), N0, rfl⟩
              · have pre43 : ∀ t, Steps p.tables e below (s₁.setTop (mkF m 61 #[.val (.int p1)] [(.int (1114111 : Int32)), (.int p1)])) t → Steps p.tables e below (s₁.setTop (entryFrame m #[(.int p1)] 1)) t := fun t k => pre41 t (by
                  show Steps p.tables e below (s₁.setTop (mkF m 55 #[.val (.int p1)] [(.int (65536 : Int32)), (.int p1)])) _
                  refine XS.icmpNo X0.here hx rfl (hb hby own_d_method_2_code_55) rfl (flt hc55_42).1 ?_
                  show Steps p.tables e below (s₁.setTop (mkF m 58 #[.val (.int p1)] [])) _
                  refine XS.iloadN X0.here hx rfl (hb hby own_d_method_2_code_58) rfl ?_
                  show Steps p.tables e below (s₁.setTop (mkF m 59 #[.val (.int p1)] [(.int p1)])) _
                  refine X0.ldcInt hx hown (mvT hZ (hw _ (List.mem_of_getElem? (i := 17) rfl))) (g := (mkF m 59 #[.val (.int p1)] [(.int p1)])) rfl (hb hby own_d_method_2_code_59) _ ?_
                  exact k)
                by_cases hc61_44 : (1114111 : Int32) < p1
                · obtain ⟨fs, hr, hrun, hended, hW, hsame⟩ := X0.leave (v := some (.int (0 : Int32))) (fun h => by rw [Bd.returns] at h; cases h)
                  refine ⟨_, _, pre43 _ ?_, hrun, hended, _, _, rfl, ?_, ⟨_, rfl⟩, hW, hsame.mono (by decide) (by decide)⟩
                  · show Steps p.tables e below (s₁.setTop (mkF m 61 #[.val (.int p1)] [(.int (1114111 : Int32)), (.int p1)])) _
                    refine XS.icmpYes X0.here hx rfl (pc0 := 61) (pc' := 66) rfl (hb hby own_d_method_2_code_61) rfl (tlt hc61_44).2.2.1 (by decide) (by decide) ?_
                    show Steps p.tables e below (s₁.setTop (mkF m 66 #[.val (.int p1)] [])) _
                    refine XS.iconst X0.here hx rfl (hb hby own_d_method_2_code_66) ?_
                    show Steps p.tables e below (s₁.setTop (mkF m 67 #[.val (.int p1)] [(.int (0 : Int32))])) _
                    exact retN X0 hx (t := .boolean) Bd.returns (by simp) (hb hby own_d_method_2_code_67) hr
                  · show PQ (some (.int (own_f_rm2 p1))) h0 n0 _ s₁.heap _
                    rw [e0]
                    exact ⟨congrArg (fun z => some (Value.int z)) (by unfold own_f_rm2; rw [if_neg hc3_18, if_neg hc11_20, if_neg hc19_22, if_neg hc27_24, if_pos hc33_38, if_pos hc41_40, if_neg hc55_42, if_pos hc61_44]), N0, rfl⟩
                · obtain ⟨fs, hr, hrun, hended, hW, hsame⟩ := X0.leave (v := some (.int (1 : Int32))) (fun h => by rw [Bd.returns] at h; cases h)
                  refine ⟨_, _, pre43 _ ?_, hrun, hended, _, _, rfl, ?_, ⟨_, rfl⟩, hW, hsame.mono (by decide) (by decide)⟩
                  · show Steps p.tables e below (s₁.setTop (mkF m 61 #[.val (.int p1)] [(.int (1114111 : Int32)), (.int p1)])) _
                    refine XS.icmpNo X0.here hx rfl (hb hby own_d_method_2_code_61) rfl (flt hc61_44).2.2.1 ?_
                    show Steps p.tables e below (s₁.setTop (mkF m 64 #[.val (.int p1)] [])) _
                    refine XS.iconst X0.here hx rfl (hb hby own_d_method_2_code_64) ?_
                    show Steps p.tables e below (s₁.setTop (mkF m 65 #[.val (.int p1)] [(.int (1 : Int32))])) _
                    exact retN X0 hx (t := .boolean) Bd.returns (by simp) (hb hby own_d_method_2_code_65) hr
                  · show PQ (some (.int (own_f_rm2 p1))) h0 n0 _ s₁.heap _
                    rw [e0]
                    exact ⟨congrArg (fun z => some (Value.int z)) (by unfold own_f_rm2; rw [if_neg hc3_18, if_neg hc11_20, if_neg hc19_22, if_neg hc27_24, if_pos hc33_38, if_pos hc41_40, if_neg hc55_42, if_neg hc61_44]), N0, rfl⟩
            · have pre45 : ∀ t, Steps p.tables e below (s₁.setTop (mkF m 47 #[.val (.int p1)] [(.int (65533 : Int32)), (.int p1)])) t → Steps p.tables e below (s₁.setTop (entryFrame m #[(.int p1)] 1)) t := fun t k => pre39 t (by
                show Steps p.tables e below (s₁.setTop (mkF m 41 #[.val (.int p1)] [(.int (57344 : Int32)), (.int p1)])) _
                refine XS.icmpNo X0.here hx rfl (hb hby own_d_method_2_code_41) rfl (flt hc41_40).1 ?_
                show Steps p.tables e below (s₁.setTop (mkF m 44 #[.val (.int p1)] [])) _
                refine XS.iloadN X0.here hx rfl (hb hby own_d_method_2_code_44) rfl ?_
                show Steps p.tables e below (s₁.setTop (mkF m 45 #[.val (.int p1)] [(.int p1)])) _
                refine X0.ldcInt hx hown (mvT hZ (hw _ (List.mem_of_getElem? (i := 16) rfl))) (g := (mkF m 45 #[.val (.int p1)] [(.int p1)])) rfl (hb hby own_d_method_2_code_45) _ ?_
                exact k)
              by_cases hc47_46 : (65533 : Int32) < p1
              · have pre47 : ∀ t, Steps p.tables e below (s₁.setTop (mkF m 55 #[.val (.int p1)] [(.int (65536 : Int32)), (.int p1)])) t → Steps p.tables e below (s₁.setTop (entryFrame m #[(.int p1)] 1)) t := fun t k => pre45 t (by
                  show Steps p.tables e below (s₁.setTop (mkF m 47 #[.val (.int p1)] [(.int (65533 : Int32)), (.int p1)])) _
                  refine XS.icmpYes X0.here hx rfl (pc0 := 47) (pc' := 52) rfl (hb hby own_d_method_2_code_47) rfl (tlt hc47_46).2.2.1 (by decide) (by decide) ?_
                  show Steps p.tables e below (s₁.setTop (mkF m 52 #[.val (.int p1)] [])) _
                  refine XS.iloadN X0.here hx rfl (hb hby own_d_method_2_code_52) rfl ?_
                  show Steps p.tables e below (s₁.setTop (mkF m 53 #[.val (.int p1)] [(.int p1)])) _
                  refine X0.ldcInt hx hown (mvT hZ (hw _ (List.mem_of_getElem? (i := 10) rfl))) (g := (mkF m 53 #[.val (.int p1)] [(.int p1)])) rfl (hb hby own_d_method_2_code_53) _ ?_
                  exact k)
                by_cases hc55_48 : p1 < (65536 : Int32)
                · obtain ⟨fs, hr, hrun, hended, hW, hsame⟩ := X0.leave (v := some (.int (0 : Int32))) (fun h => by rw [Bd.returns] at h; cases h)
                  refine ⟨_, _, pre47 _ ?_, hrun, hended, _, _, rfl, ?_, ⟨_, rfl⟩, hW, hsame.mono (by decide) (by decide)⟩
                  · show Steps p.tables e below (s₁.setTop (mkF m 55 #[.val (.int p1)] [(.int (65536 : Int32)), (.int p1)])) _
                    refine XS.icmpYes X0.here hx rfl (pc0 := 55) (pc' := 66) rfl (hb hby own_d_method_2_code_55) rfl (tlt hc55_48).1 (by decide) (by decide) ?_
                    show Steps p.tables e below (s₁.setTop (mkF m 66 #[.val (.int p1)] [])) _
                    refine XS.iconst X0.here hx rfl (hb hby own_d_method_2_code_66) ?_
                    show Steps p.tables e below (s₁.setTop (mkF m 67 #[.val (.int p1)] [(.int (0 : Int32))])) _
                    exact retN X0 hx (t := .boolean) Bd.returns (by simp) (hb hby own_d_method_2_code_67) hr
                  · show PQ (some (.int (own_f_rm2 p1))) h0 n0 _ s₁.heap _
                    rw [e0]
                    exact ⟨congrArg (fun z => some (Value.int z)) (by unfold own_f_rm2; rw [if_neg hc3_18, if_neg hc11_20, if_neg hc19_22, if_neg hc27_24, if_pos hc33_38, if_neg hc41_40, if_pos hc47_46, if_pos hc55_48]), N0, rfl⟩
                · have pre49 : ∀ t, Steps p.tables e below (s₁.setTop (mkF m 61 #[.val (.int p1)] [(.int (1114111 : Int32)), (.int p1)])) t → Steps p.tables e below (s₁.setTop (entryFrame m #[(.int p1)] 1)) t := fun t k => pre47 t (by
                    show Steps p.tables e below (s₁.setTop (mkF m 55 #[.val (.int p1)] [(.int (65536 : Int32)), (.int p1)])) _
                    refine XS.icmpNo X0.here hx rfl (hb hby own_d_method_2_code_55) rfl (flt hc55_48).1 ?_
                    show Steps p.tables e below (s₁.setTop (mkF m 58 #[.val (.int p1)] [])) _
                    refine XS.iloadN X0.here hx rfl (hb hby own_d_method_2_code_58) rfl ?_
                    show Steps p.tables e below (s₁.setTop (mkF m 59 #[.val (.int p1)] [(.int p1)])) _
                    refine X0.ldcInt hx hown (mvT hZ (hw _ (List.mem_of_getElem? (i := 17) rfl))) (g := (mkF m 59 #[.val (.int p1)] [(.int p1)])) rfl (hb hby own_d_method_2_code_59) _ ?_
                    exact k)
                  by_cases hc61_50 : (1114111 : Int32) < p1
                  · obtain ⟨fs, hr, hrun, hended, hW, hsame⟩ := X0.leave (v := some (.int (0 : Int32))) (fun h => by rw [Bd.returns] at h; cases h)
                    refine ⟨_, _, pre49 _ ?_, hrun, hended, _, _, rfl, ?_, ⟨_, rfl⟩, hW, hsame.mono (by decide) (by decide)⟩
                    · show Steps p.tables e below (s₁.setTop (mkF m 61 #[.val (.int p1)] [(.int (1114111 : Int32)), (.int p1)])) _
                      refine XS.icmpYes X0.here hx rfl (pc0 := 61) (pc' := 66) rfl (hb hby own_d_method_2_code_61) rfl (tlt hc61_50).2.2.1 (by decide) (by decide) ?_
                      show Steps p.tables e below (s₁.setTop (mkF m 66 #[.val (.int p1)] [])) _
                      refine XS.iconst X0.here hx rfl (hb hby own_d_method_2_code_66) ?_
                      show Steps p.tables e below (s₁.setTop (mkF m 67 #[.val (.int p1)] [(.int (0 : Int32))])) _
                      exact retN X0 hx (t := .boolean) Bd.returns (by simp) (hb hby own_d_method_2_code_67) hr
                    · show PQ (some (.int (own_f_rm2 p1))) h0 n0 _ s₁.heap _
                      rw [e0]
                      exact ⟨congrArg (fun z => some (Value.int z)) (by unfold own_f_rm2; rw [if_neg hc3_18, if_neg hc11_20, if_neg hc19_22, if_neg hc27_24, if_pos hc33_38, if_neg hc41_40, if_pos hc47_46, if_neg hc55_48, if_pos hc61_50]), N0, rfl⟩
                  · obtain ⟨fs, hr, hrun, hended, hW, hsame⟩ := X0.leave (v := some (.int (1 : Int32))) (fun h => by rw [Bd.returns] at h; cases h)
                    refine ⟨_, _, pre49 _ ?_, hrun, hended, _, _, rfl, ?_, ⟨_, rfl⟩, hW, hsame.mono (by decide) (by decide)⟩
                    · show Steps p.tables e below (s₁.setTop (mkF m 61 #[.val (.int p1)] [(.int (1114111 : Int32)), (.int p1)])) _
                      refine XS.icmpNo X0.here hx rfl (hb hby own_d_method_2_code_61) rfl (flt hc61_50).2.2.1 ?_
                      show Steps p.tables e below (s₁.setTop (mkF m 64 #[.val (.int p1)] [])) _
                      refine XS.iconst X0.here hx rfl (hb hby own_d_method_2_code_64) ?_
                      show Steps p.tables e below (s₁.setTop (mkF m 65 #[.val (.int p1)] [(.int (1 : Int32))])) _
                      exact retN X0 hx (t := .boolean) Bd.returns (by simp) (hb hby own_d_method_2_code_65) hr
                    · show PQ (some (.int (own_f_rm2 p1))) h0 n0 _ s₁.heap _
                      rw [e0]
                      exact ⟨congrArg (fun z => some (Value.int z)) (by unfold own_f_rm2; rw [if_neg hc3_18, if_neg hc11_20, if_neg hc19_22, if_neg hc27_24, if_pos hc33_38, if_neg hc41_40, if_pos hc47_46, if_neg hc55_48, if_neg hc61_50]), N0, rfl⟩
              · obtain ⟨fs, hr, hrun, hended, hW, hsame⟩ := X0.leave (v := some (.int (1 : Int32))) (fun h => by rw [Bd.returns] at h; cases h)
                refine ⟨_, _, pre45 _ ?_, hrun, hended, _, _, rfl, ?_, ⟨_, rfl⟩, hW, hsame.mono (by decide) (by decide)⟩
                · show Steps p.tables e below (s₁.setTop (mkF m 47 #[.val (.int p1)] [(.int (65533 : Int32)), (.int p1)])) _
                  refine XS.icmpNo X0.here hx rfl (hb hby own_d_method_2_code_47) rfl (flt hc47_46).2.2.1 ?_
                  show Steps p.tables e below (s₁.setTop (mkF m 50 #[.val (.int p1)] [])) _
                  refine XS.iconst X0.here hx rfl (hb hby own_d_method_2_code_50) ?_
                  show Steps p.tables e below (s₁.setTop (mkF m 51 #[.val (.int p1)] [(.int (1 : Int32))])) _
                  exact retN X0 hx (t := .boolean) Bd.returns (by simp) (hb hby own_d_method_2_code_51) hr
                · show PQ (some (.int (own_f_rm2 p1))) h0 n0 _ s₁.heap _
                  rw [e0]
                  exact ⟨congrArg (fun z => some (Value.int z)) (by unfold own_f_rm2; rw [if_neg hc3_18, if_neg hc11_20, if_neg hc19_22, if_neg hc27_24, if_pos hc33_38, if_neg hc41_40, if_neg hc47_46]), N0, rfl⟩
          · obtain ⟨fs, hr, hrun, hended, hW, hsame⟩ := X0.leave (v := some (.int (1 : Int32))) (fun h => by rw [Bd.returns] at h; cases h)
            refine ⟨_, _, pre37 _ ?_, hrun, hended, _, _, rfl, ?_, ⟨_, rfl⟩, hW, hsame.mono (by decide) (by decide)⟩
            · show Steps p.tables e below (s₁.setTop (mkF m 33 #[.val (.int p1)] [(.int (55295 : Int32)), (.int p1)])) _
              refine XS.icmpNo X0.here hx rfl (hb hby own_d_method_2_code_33) rfl (flt hc33_38).2.2.1 ?_
              show Steps p.tables e below (s₁.setTop (mkF m 36 #[.val (.int p1)] [])) _
              refine XS.iconst X0.here hx rfl (hb hby own_d_method_2_code_36) ?_
              show Steps p.tables e below (s₁.setTop (mkF m 37 #[.val (.int p1)] [(.int (1 : Int32))])) _
              exact retN X0 hx (t := .boolean) Bd.returns (by simp) (hb hby own_d_method_2_code_37) hr
            · show PQ (some (.int (own_f_rm2 p1))) h0 n0 _ s₁.heap _
              rw [e0]
              exact ⟨congrArg (fun z => some (Value.int z)) (by unfold own_f_rm2; rw [if_neg hc3_18, if_neg hc11_20, if_neg hc19_22, if_neg hc27_24, if_neg hc33_38]), N0, rfl⟩
theorem own_eq0 (c : Int32) (h : c.toInt < 1114112) : own_f_rm1 c = own_f_rm2 c := by
  have lt : ∀ a b : Int32, (a < b) = (a.toInt < b.toInt) := fun a b => propext Int32.lt_iff_toInt_lt
  have eq : ∀ a b : Int32, (a = b) = (a.toInt = b.toInt) := fun a b => propext Int32.toInt_inj.symm
  have e1 : own_f_rm1 c = if c.toInt = 9 ∨ c.toInt = 10 ∨ c.toInt = 13 ∨ (32 ≤ c.toInt ∧ c.toInt < 55296) ∨ (57344 ≤ c.toInt ∧ c.toInt ≠ 65534 ∧ c.toInt ≠ 65535) then 1 else 0 := by
    unfold own_f_rm1
    repeat' split
    all_goals first | rfl | (exfalso; simp only [lt, eq, show (32 : Int32).toInt = 32 from rfl, show (9 : Int32).toInt = 9 from rfl, show (10 : Int32).toInt = 10 from rfl, show (13 : Int32).toInt = 13 from rfl, show (55296 : Int32).toInt = 55296 from rfl, show (57344 : Int32).toInt = 57344 from rfl, show (65534 : Int32).toInt = 65534 from rfl, show (65535 : Int32).toInt = 65535 from rfl] at *; omega)
  have e2 : own_f_rm2 c = if c.toInt = 9 ∨ c.toInt = 10 ∨ c.toInt = 13 ∨ (32 ≤ c.toInt ∧ c.toInt < 55296) ∨ (57344 ≤ c.toInt ∧ c.toInt ≠ 65534 ∧ c.toInt ≠ 65535) then 1 else 0 := by
    unfold own_f_rm2
    repeat' split
    all_goals first | rfl | (exfalso; simp only [lt, eq, show (32 : Int32).toInt = 32 from rfl, show (9 : Int32).toInt = 9 from rfl, show (10 : Int32).toInt = 10 from rfl, show (13 : Int32).toInt = 13 from rfl, show (55295 : Int32).toInt = 55295 from rfl, show (57344 : Int32).toInt = 57344 from rfl, show (65533 : Int32).toInt = 65533 from rfl, show (65536 : Int32).toInt = 65536 from rfl, show (1114111 : Int32).toInt = 1114111 from rfl] at *; omega)
  rw [e1, e2]
theorem own_rng (x : Int32) : (x % (1114112 : Int32)).toInt < 1114112 := by
  have q := c_irem x (1114112 : Int32) 1114112 rfl
  omega
theorem own_eq (x : Int32) : own_f_rm1 (x % (1114112 : Int32)) = own_f_rm2 (x % (1114112 : Int32)) := own_eq0 _ (own_rng x)
theorem own_ef_rm0 (m : MethodId) (p1 : Int32) : entryFrame m #[(.int p1)] maxLocals = mkF m 0 #[.val (.int p1), .unset] [] := by first | (simp [entryFrame, mkF, argsToLocals, Value.category, maxLocals]; done) | rfl
set_option maxRecDepth 65536 in
set_option maxHeartbeats 40000000 in
theorem rm0 (l : Launch) (Z : State) (a0 : Array Value) (hw : ∀ d ∈ tables_1, d.before a0 Z = true) (ws : List Jvm.Cond) (h0 : Heap) (n0 : Nat) (p1 : Int32)  :
    MetFree l x (head1 (Jvm.Cond.code x code maxLocals ret :: ws) room_1) (fun a U => a = #[(.int p1)] ∧ Z.Warmed39 U.vm ∧ U.heap = h0) (fun _ _ _ _ _ => True) (fun _ U o U' => ∃ v L, o = .returned v ∧ (PQ (some (.int (1 : Int32))) h0 n0) v U'.heap L ∧ FrameEnd U o U' L room_1.cells room_1.slots) := by
  refine MetFree.of_bodySF (plainFor_of_name own_pn1) hisR ?_
  intro p e s m args below meth c s₁ Bd hml0 hP hK
  obtain ⟨rfl, hZ, hh⟩ := hP
  have hx := Bd.exec
  have hby := Bd.bytes
  have hml : c.maxLocals = 2 := hml0
  have hown : s.vm.findClass "com/example/measurewright/measurewright/XmlWriterIsCharacterPinLaw" = some m.cls := findClass_of_methodNamed Bd.named
  have hnm := (name_of_methodNamed Bd.named Bd.method).1
  have X0 : Stand p l e room_1 s m #[(.int p1)] below meth c s₁ [] 0 0 := Stand.of_body Bd
  have e0 : s₁.heap = h0 := by rw [← hh, Bd.state]; rfl
  have N0 := Fr.nil n0
  have pre0 : ∀ t, Steps p.tables e below (s₁.setTop (mkF m 0 #[.val (.int p1), .unset] [])) t → Steps p.tables e below (s₁.setTop (entryFrame m #[(.int p1)] maxLocals)) t := fun t k => castTop (own_ef_rm0 m p1) k
  obtain ⟨_, _, ⟨T51, L51, k51, n51⟩, -, X51, ⟨Lc51, hQ51, l51, y51, z51⟩, st51⟩ := Jvm.LawKit.callS X0 hx (y := (⟨"com/example/measurewright/measurewright/XmlWriter", "isCharacter", "(I)Z"⟩ : MethodName)) hown (mvT hZ (hw _ (List.mem_of_getElem? (i := 1) rfl))) (mvT hZ (hw _ (List.mem_of_getElem? (i := 2) rfl))) (mvT hZ (hw _ (List.mem_of_getElem? (i := 3) rfl))) (mvT hZ (hw _ (List.mem_of_getElem? (i := 4) rfl))) (by decide) (backOf (W := 0) (rm1 l Z a0 hw [] h0 n0 (p1 % (1114112 : Int32))) hZ (hw _ (List.mem_of_getElem? (i := 4) rfl)) (hw _ (List.mem_of_getElem? (i := 3) rfl)) (by decide) (by decide)) (g := (mkF m 6 #[.val (.int p1), .val (.int (p1 % (1114112 : Int32)))] [(.int (p1 % (1114112 : Int32)))])) rfl (by rw [hml]; rfl) (argsL := [(.int (p1 % (1114112 : Int32)))]) (rest := []) (lenOf own_pd0 rfl) rfl (by show 2 * 0 + _ ≤ _; exact Nat.le_of_eq rfl) (hb hby at_6) (fun _ _ => ⟨rfl, e0, (by decide : 0 + 0 ≤ _), (by decide : 0 + 0 ≤ _)⟩)
  dsimp only [Pt.U, Pt.locs, Pt.cells, Pt.slots] at X51 l51 y51 z51 st51 hQ51
  subst l51 y51 z51
  obtain ⟨rfl, N51q, e51⟩ := hQ51
  have N51 := Fr.app N0 N51q
  obtain ⟨_, _, ⟨T52, L52, k52, n52⟩, -, X52, ⟨Lc52, hQ52, l52, y52, z52⟩, st52⟩ := Jvm.LawKit.callS X51 hx (y := (⟨"com/example/measurewright/measurewright/XmlWriterIsCharacterPinLaw", "xmlChar", "(I)Z"⟩ : MethodName)) hown (mvT hZ (hw _ (List.mem_of_getElem? (i := 5) rfl))) (mvT hZ (hw _ (List.mem_of_getElem? (i := 6) rfl))) (mvT hZ (hw _ (List.mem_of_getElem? (i := 7) rfl))) (mvT hZ (hw _ (List.mem_of_getElem? (i := 8) rfl))) (by decide) (backOf (W := 1) (rm2 l Z a0 hw [] h0 n0 (p1 % (1114112 : Int32))) hZ (hw _ (List.mem_of_getElem? (i := 8) rfl)) (hw _ (List.mem_of_getElem? (i := 7) rfl)) (by decide) (by decide)) (g := (mkF m 10 #[.val (.int p1), .val (.int (p1 % (1114112 : Int32)))] [(.int (p1 % (1114112 : Int32))), (.int (own_f_rm1 (p1 % (1114112 : Int32))))])) rfl (by rw [hml]; rfl) (argsL := [(.int (p1 % (1114112 : Int32)))]) (rest := [(.int (own_f_rm1 (p1 % (1114112 : Int32))))]) (lenOf own_pd0 rfl) rfl (by show 2 * 0 + _ ≤ _; exact Nat.le_of_eq rfl) (hb hby at_10) (fun _ _ => ⟨rfl, e51, (by decide : 0 + 0 ≤ _), (by decide : 0 + 0 ≤ _)⟩)
  dsimp only [Pt.U, Pt.locs, Pt.cells, Pt.slots] at X52 l52 y52 z52 st52 hQ52
  subst l52 y52 z52
  obtain ⟨rfl, N52q, e52⟩ := hQ52
  have N52 := Fr.app N51 N52q
  obtain ⟨fs, hr, hrun, hended, hW, hsame⟩ := X52.leave (v := some (.int (1 : Int32))) (fun h => by rw [Bd.returns] at h; cases h)
  refine ⟨_, _, pre0 _ ?_, hrun, hended, _, _, rfl, ?_, ⟨_, rfl⟩, hW, hsame.mono (by decide) (by decide)⟩
  · show Steps p.tables e below (s₁.setTop (mkF m 0 #[.val (.int p1), .unset] [])) _
    refine XS.iloadN X0.here hx rfl (hb hby at_0) rfl ?_
    show Steps p.tables e below (s₁.setTop (mkF m 1 #[.val (.int p1), .unset] [(.int p1)])) _
    refine X0.ldcInt hx hown (mvT hZ (hw _ (List.mem_of_getElem? (i := 0) rfl))) (g := (mkF m 1 #[.val (.int p1), .unset] [(.int p1)])) rfl (hb hby at_1) _ ?_
    show Steps p.tables e below (s₁.setTop (mkF m 3 #[.val (.int p1), .unset] [(.int (1114112 : Int32)), (.int p1)])) _
    refine iremM X0 hx rfl (hb hby at_3) rfl (by decide) ?_
    show Steps p.tables e below (s₁.setTop (mkF m 4 #[.val (.int p1), .unset] [(.int (p1 % (1114112 : Int32)))])) _
    refine XS.istoreN X0.here hx rfl (hb hby at_4) rfl (l' := #[.val (.int p1), .val (.int (p1 % (1114112 : Int32)))]) rfl ?_
    show Steps p.tables e below (s₁.setTop (mkF m 5 #[.val (.int p1), .val (.int (p1 % (1114112 : Int32)))] [])) _
    refine XS.iloadN X0.here hx rfl (hb hby at_5) rfl ?_
    show Steps p.tables e below (s₁.setTop (mkF m 6 #[.val (.int p1), .val (.int (p1 % (1114112 : Int32)))] [(.int (p1 % (1114112 : Int32)))])) _
    refine st51 _ ?_
    show Steps p.tables e below (T51.setTop (mkF m 9 #[.val (.int p1), .val (.int (p1 % (1114112 : Int32)))] [(.int (own_f_rm1 (p1 % (1114112 : Int32))))])) _
    refine XS.iloadN X51.here hx rfl (hb hby at_9) rfl ?_
    show Steps p.tables e below (T51.setTop (mkF m 10 #[.val (.int p1), .val (.int (p1 % (1114112 : Int32)))] [(.int (p1 % (1114112 : Int32))), (.int (own_f_rm1 (p1 % (1114112 : Int32))))])) _
    refine st52 _ ?_
    show Steps p.tables e below (T52.setTop (mkF m 13 #[.val (.int p1), .val (.int (p1 % (1114112 : Int32)))] [(.int (own_f_rm2 (p1 % (1114112 : Int32)))), (.int (own_f_rm1 (p1 % (1114112 : Int32))))])) _
    refine XS.icmpNo X52.here hx rfl (hb hby at_13) rfl (teq (own_eq p1)).2 ?_
    show Steps p.tables e below (T52.setTop (mkF m 16 #[.val (.int p1), .val (.int (p1 % (1114112 : Int32)))] [])) _
    refine XS.iconst X52.here hx rfl (hb hby at_16) ?_
    show Steps p.tables e below (T52.setTop (mkF m 17 #[.val (.int p1), .val (.int (p1 % (1114112 : Int32)))] [(.int (1 : Int32))])) _
    refine XS.goto X52.here hx rfl (pc0 := 17) (pc' := 21) rfl (hb hby at_17) (by decide) (by decide) ?_
    show Steps p.tables e below (T52.setTop (mkF m 21 #[.val (.int p1), .val (.int (p1 % (1114112 : Int32)))] [(.int (1 : Int32))])) _
    exact retN X52 hx (t := .boolean) Bd.returns (by simp) (hb hby at_21) hr
  · show PQ (some (.int (1 : Int32))) h0 n0 _ T52.heap _
    rw [e52]
    exact ⟨rfl, N52, rfl⟩
set_option maxRecDepth 65536 in
set_option maxHeartbeats 40000000 in
theorem comes_1 {Post : Tables → Env → Array Value → State → Outcome → State → Prop} (hpost : ∀ tb e args s v u, (limb_1_1.after args s (.returned v) u = true ∧ limb_1_2.after args s (.returned v) u = true ∧ True) → FrameEnd s (.returned v) u (Jvm.fieldLocs frame_1_writes args s ++ Jvm.arrayLocs frame_1_arrays args s ++ Jvm.staticLocs frame_1_statics s) 0 0 → Post tb e args s (.returned v) u) :
    ArmFor flags0 classFile x code maxLocals ret World_1 tables_1 room_1 Calls_1 rest_1 Pre_1 Post := by
  intro l hfl _ _ p e ha hc hk s m args below hf hA hF happ hP
  obtain ⟨hcalls, hrest, hpre⟩ := hP
  obtain ⟨-, -, -, hnamed, -, -, -, hat⟩ := (Spec.applies_iff hf).mp happ
  obtain ⟨hg, hn⟩ := and_e (Cond.before_iff.mp (show (Jvm.Cond.and given_1 narrow_1).before args s = true from hpre))
  obtain ⟨gA0, gB0⟩ := and_e hg
  obtain ⟨w0, rfl⟩ : ∃ w0 : Value, args = #[w0] := by
    have hs : args.size = 1 := by simpa [Cond.value, given_1] using gA0
    obtain ⟨L⟩ := args
    match L, hs with
    | [w0], _ => exact ⟨w0, rfl⟩
  have hw := fun d (hd : d ∈ tables_1) => atoms_spec (ws := Jvm.Cond.code x code maxLocals ret :: tables_1) hat d (List.mem_cons_of_mem _ hd)
  have hfit : Fit s := fun {y c} hc i hi => by
    obtain ⟨ha, rfl⟩ := Array.getElem?_eq_some_iff.mp hc
    have q := List.all_eq_true.mp ((Array.all_eq_true_iff_forall_mem.mp hF) _ (Array.getElem_mem ha)) i (List.mem_range.mpr hi)
    simpa [Array.getElem?_eq_getElem hi] using q
  obtain ⟨i0, ei0⟩ := is_v gB0
  obtain rfl : w0 = (.int i0) := Option.some.inj ei0
  obtain ⟨n, o, h1, h2, h3, _, L, rfl, hQ, hq⟩ := rm0 l s _ hw tables_1 s.heap s.heap.size i0 p e ha hc hk s m _ below hf ((Spec.applies_iff_loose hf).mp happ).1 ⟨rfl, State.Warmed39.refl s, rfl⟩ trivial
  obtain ⟨rfl, N, -⟩ := hQ
  refine ⟨n, _, h1, h2, h3, hpost _ _ _ _ _ _ ⟨Cond.after_iff.mpr rfl, Cond.after_iff.mpr (eq_i res_at (Term.int_eval (1)) rfl), trivial⟩ ⟨hq.1, hq.2.1, (hq.2.2.sift fun y hy => Or.inr (N y hy)).mono (by decide) (by decide)⟩⟩
theorem main_1_1 : Claimed_1_1 := comes_1 fun _ _ _ _ _ _ h hF => ⟨h.1, hF⟩
theorem main_1_2 : Claimed_1_2 := comes_1 fun _ _ _ _ _ _ h hF => ⟨h.2.1, hF⟩
end Jvm.Pilot.@@N@@
namespace Jvm.Pilot.@@N@@
open Jvm Jvm.ClassFile Sem Op Lib Jvm.Free Jvm.Stand Jvm.Pilot.@@N@@.Jvm.D
/-! MADE BY PROGRAM (witnessworld.py) out of the Statement's table words and the real class files: 9 classes; the members and pool entries that the words name. The judged class is class 1, her method 2. -/
namespace start1
open Jvm.ClassFile
def u (s : String) : CpInfo := .utf8 (stringToUtf16 s)
/-- a pool by its gaps: so many unusable entries, then the entry; so many at the end -/
def gap : Nat → List CpInfo → List CpInfo
  | 0, r => r
  | n + 1, r => .unusable :: gap n r
def poolList (es : List (Nat × CpInfo)) (last : Nat) : List CpInfo := es.foldr (fun e r => gap e.1 (e.2 :: r)) (gap last [])
def pool (es : List (Nat × CpInfo)) (last : Nat) : Array CpInfo := ⟨poolList es last⟩
def fileOf (pool : Array CpInfo) (this : Nat) (attrs : Array Attribute := #[]) (ms : Array MethodInfo := #[]) (fl : Nat := 33) (sup : Nat := 0) (ifs : Array Nat := #[]) (fds : Array FieldInfo := #[]) : ClassFile where
  minorVersion := 0
  majorVersion := 65
  constantPool := pool
  accessFlags := fl
  thisClass := this
  superClass := sup
  interfaces := ifs
  fields := fds
  methods := ms
  attributes := attrs
def plain (name : String) (sup : Option ClassId) : Class where
  name := name
  kind := .ordinary
  loader := none
  accessFlags := 33
  super := sup
  interfaces := #[]
  cf := none
  fields := #[]
  methods := #[]
  instanceTypes := #[]
  staticTypes := #[]
  resolved := #[]
  callSites := []
  init := .initialized
  statics := none
  mirror := none

def pool0 : Array CpInfo := pool [(5, u "<init>"), (0, u "()V"), (1, .class_ 10), (1, u "java/lang/Object")] 113

def k0m0 : Method := { name := "<init>", desc := "()V", sig := { parameters := [], returnType := none }, accessFlags := 1, code := none }
/-- java/lang/Object -/
def k0 : Class := { plain "java/lang/Object" none with
  accessFlags := 33
  interfaces := #[]
  cf := some (fileOf pool0 8 #[] #[{ accessFlags := 1, nameIndex := 5, descriptorIndex := 6, attributes := #[] }] 33 0 #[] #[])
  fields := #[]
  methods := #[k0m0]
  instanceTypes := #[]
  staticTypes := #[]
  resolved := Array.replicate 124 none
  statics := none }

def pool1 : Array CpInfo := pool [(2, .class_ 4), (1, u "java/lang/Object"), (0, u "<init>"), (0, u "()V"), (0, .integer 55295), (0, .integer 57344), (0, .integer 65533), (0, .integer 65536), (0, .integer 1114111), (0, .integer 1114112), (0, .methodref 14 15), (0, .class_ 16), (0, .nameAndType 17 18), (0, u "com/example/measurewright/measurewright/XmlWriter"), (0, u "isCharacter"), (0, u "(I)Z"), (0, .methodref 20 21), (0, .class_ 22), (0, .nameAndType 23 18), (0, u "com/example/measurewright/measurewright/XmlWriterIsCharacterPinLaw"), (0, u "xmlChar"), (3, u "law")] 2

def k1m0 : Method := { name := "<init>", desc := "()V", sig := { parameters := [], returnType := none }, accessFlags := 2, code := none }
def k1c1 : Code := { maxStack := 2, maxLocals := 1, code := method_2_code, exceptionTable := #[], attributes := #[] }
def k1m1 : Method := { name := "xmlChar", desc := "(I)Z", sig := { parameters := [.int], returnType := some .boolean }, accessFlags := 10, code := some k1c1 }
def k1c2 : Code := { maxStack := 2, maxLocals := 2, code := code, exceptionTable := #[], attributes := #[] }
def k1m2 : Method := { name := "law", desc := "(I)Z", sig := { parameters := [.int], returnType := some .boolean }, accessFlags := 9, code := some k1c2 }
/-- com/example/measurewright/measurewright/XmlWriterIsCharacterPinLaw -/
def k1 : Class := { plain "com/example/measurewright/measurewright/XmlWriterIsCharacterPinLaw" (some 0) with
  accessFlags := 49
  interfaces := #[]
  cf := some (fileOf pool1 20 #[] #[{ accessFlags := 2, nameIndex := 5, descriptorIndex := 6, attributes := #[] }, { accessFlags := 10, nameIndex := 23, descriptorIndex := 18, attributes := #[] }, { accessFlags := 9, nameIndex := 27, descriptorIndex := 18, attributes := #[] }] 49 2 #[] #[])
  fields := #[]
  methods := #[k1m0, k1m1, k1m2]
  instanceTypes := #[]
  staticTypes := #[]
  resolved := Array.replicate 30 none
  statics := none }

def pool2 : Array CpInfo := pool [(2, .class_ 4), (1, u "java/lang/Object"), (3, .class_ 10), (1, u "com/example/measurewright/measurewright/XmlWriter"), (0, u "FACTORY"), (0, u "Ljavax/xml/stream/XMLOutputFactory;"), (8, u "xml"), (0, u "Ljavax/xml/stream/XMLStreamWriter;"), (33, u "depth"), (0, u "I"), (0, .integer 55296), (0, .integer 57344), (0, .integer 65534), (0, .integer 65535), (71, u "XSI_PREFIX"), (0, u "Ljava/lang/String;"), (7, u "isCharacter"), (0, u "(I)Z")] 37

def k2c0 : Code := { maxStack := 2, maxLocals := 1, code := prog_31_method_2_code, exceptionTable := #[], attributes := #[] }
def k2m0 : Method := { name := "isCharacter", desc := "(I)Z", sig := { parameters := [.int], returnType := some .boolean }, accessFlags := 8, code := some k2c0 }
/-- com/example/measurewright/measurewright/XmlWriter -/
def k2 : Class := { plain "com/example/measurewright/measurewright/XmlWriter" (some 0) with
  accessFlags := 48
  interfaces := #[]
  cf := some (fileOf pool2 8 #[] #[{ accessFlags := 8, nameIndex := 142, descriptorIndex := 143, attributes := #[] }] 48 2 #[] #[{ accessFlags := 26, nameIndex := 11, descriptorIndex := 12, attributes := #[] }, { accessFlags := 26, nameIndex := 133, descriptorIndex := 134, attributes := #[] }, { accessFlags := 18, nameIndex := 21, descriptorIndex := 22, attributes := #[] }, { accessFlags := 2, nameIndex := 56, descriptorIndex := 57, attributes := #[] }])
  fields := #[{ name := "FACTORY", type := (.object "javax/xml/stream/XMLOutputFactory"), accessFlags := 26, slot := 0, constantValue := 0 }, { name := "XSI_PREFIX", type := (.object "java/lang/String"), accessFlags := 26, slot := 1, constantValue := 0 }, { name := "xml", type := (.object "javax/xml/stream/XMLStreamWriter"), accessFlags := 18, slot := 0, constantValue := 0 }, { name := "depth", type := .int, accessFlags := 2, slot := 1, constantValue := 0 }]
  methods := #[k2m0]
  instanceTypes := #[(.object "javax/xml/stream/XMLStreamWriter"), .int]
  staticTypes := #[(.object "javax/xml/stream/XMLOutputFactory"), (.object "java/lang/String")]
  resolved := Array.replicate 181 none
  statics := none }

def pool3 : Array CpInfo := pool [(1, u "java/lang/Cloneable"), (0, .class_ 1), (0, u "java/lang/Object"), (0, .class_ 3)] 3

/-- java/lang/Cloneable -/
def k3 : Class := { plain "java/lang/Cloneable" (some 0) with
  accessFlags := 1537
  interfaces := #[]
  cf := some (fileOf pool3 2 #[] #[] 1537 4 #[] #[])
  fields := #[]
  methods := #[]
  instanceTypes := #[]
  staticTypes := #[]
  resolved := Array.replicate 8 none
  statics := none }

def pool4 : Array CpInfo := pool [(1, u "java/io/Serializable"), (0, .class_ 1), (0, u "java/lang/Object"), (0, .class_ 3)] 3

/-- java/io/Serializable -/
def k4 : Class := { plain "java/io/Serializable" (some 0) with
  accessFlags := 1537
  interfaces := #[]
  cf := some (fileOf pool4 2 #[] #[] 1537 4 #[] #[])
  fields := #[]
  methods := #[]
  instanceTypes := #[]
  staticTypes := #[]
  resolved := Array.replicate 8 none
  statics := none }

/-- the primitive byte -/
def k5 : Class := { plain "byte" none with kind := .primitive 'B', accessFlags := 0x411 }
/-- [B -/
def k6 : Class := { plain "[B" (some 0) with kind := .array 5 .byte, interfaces := #[3, 4], accessFlags := 1041 }

/-- the primitive int -/
def k7 : Class := { plain "int" none with kind := .primitive 'I', accessFlags := 0x411 }
/-- [I -/
def k8 : Class := { plain "[I" (some 0) with kind := .array 7 .int, interfaces := #[3, 4], accessFlags := 1041 }

def heap : Heap := #[]
def classes : Array Class := #[k0, k1, k2, k3, k4, k5, k6, k7, k8]
def interned : List (Array UInt16 × Addr) := []
def slotsUsed : Nat := 0
def theMethod : MethodId := ⟨1, 2⟩
def args0 : Array Value := #[.int 5]
def aboutOver (below : List Frame) : State where
  vm := { classes := classes, interned := interned.toArray }
  heap := heap
  slotsUsed := slotsUsed
  threads := #[{ frames := .invoking theMethod args0 :: below }]
def below0 : List Frame := [.native { method := ⟨0, 0⟩, args := #[] }]
def about1 : State := aboutOver below0
def p0 : Program := .bare "" "" ""
def e0 : Env := launch0.env 0 0 0
theorem w_frames : about1.frames = Frame.invoking theMethod args0 :: below0 := rfl
set_option maxRecDepth 65536 in
theorem w_args : argsFit about1.vm theMethod args0 = true := by decide +kernel
set_option maxRecDepth 65536 in
theorem w_heap : heapFits about1 = true := by decide +kernel
set_option maxRecDepth 65536 in
theorem w_runnable : about1.curStatus? = some .runnable := by decide +kernel
set_option maxRecDepth 65536 in
theorem w_alone : about1.alone = true := by decide +kernel
set_option maxRecDepth 65536 in
theorem w_named : about1.methodNamed? x = some theMethod := by decide +kernel
set_option maxRecDepth 65536 in
theorem w_hears : about1.hears theMethod below0 = true := by decide +kernel
set_option maxRecDepth 65536 in
theorem w_ripe : about1.ripe theMethod args0 below0 = true := by decide +kernel
theorem w_running : about1.status = .running := rfl
set_option maxRecDepth 65536 in
theorem w_room : about1.hasRoom e0.platform room_1 = true :=
  launch0.hasRoom_least _ room_1 (by decide +kernel) (by decide +kernel) (by decide +kernel) (by decide +kernel) (by decide +kernel) (by decide +kernel)
theorem allAtoms_all (ts : List Jvm.Cond) (a : Array Jvm.Value) (st : Jvm.State) : (allAtoms ts).before a st = ts.all (fun c => c.before a st) := by
  induction ts with
  | nil => rfl
  | cons c t ih =>
    show (Jvm.Cond.and c (allAtoms t)).before a st = _
    rw [Jvm.Cond.before_and, ih, List.all_cons]
def words1 : List Jvm.Cond := Jvm.Cond.code x code maxLocals ret :: tables_1
/-- a 'code' word, met by the world's own term for the bytes: nothing is compared byte by byte -/
theorem code_word {y : MethodName} {bytes : ByteArray} {mx : Nat} {rt : Option FieldType} {a : Array Value} {s : State} {m : MethodId} {meth : Method} {c : Code} (h1 : s.methodNamed? y = some m) (h2 : s.vm.method? m = some meth) (h3 : meth.code = some c) (h4 : c.code = bytes)
    (h5 : (c.maxLocals == mx && c.exceptionTable.isEmpty && decide (c.maxStack ≤ mostOperands) && decide (meth.sig.returnType = rt) && !meth.locks && decide (parseMethodDescriptor y.desc = some meth.sig)) = true) : (Jvm.Cond.code y bytes mx rt).before a s = true := by
  simp only [Bool.and_eq_true, beq_iff_eq, Bool.not_eq_true', decide_eq_true_eq] at h5
  obtain ⟨⟨⟨⟨⟨g1, g2⟩, g3⟩, g4⟩, g5⟩, g6⟩ := h5
  simp [Cond.before, Cond.holds, Cond.value, h1, h2, h3, h4, g1, g2, g3, g4, g5, g6]
def isCode : Jvm.Cond → Bool
  | .code _ _ _ _ => true
  | _ => false
theorem all_split {L : List Jvm.Cond} {P : Jvm.Cond → Bool} (h1 : L.all (fun c => isCode c || P c) = true) (h2 : ∀ c ∈ L.filter isCode, P c = true) : L.all P = true := by
  refine List.all_eq_true.mpr fun c hc => ?_
  have h := List.all_eq_true.mp h1 c hc
  rcases Bool.eq_false_or_eq_true (isCode c) with hi | hi
  · exact h2 c (List.mem_filter.mpr ⟨hc, hi⟩)
  · simpa [hi] using h
set_option maxRecDepth 65536 in
theorem w_c0 : (Jvm.Cond.code x code maxLocals ret).before args0 about1 = true := code_word (m := ⟨1, 2⟩) (meth := k1m2) (c := k1c2) (by decide +kernel) rfl rfl rfl (by decide +kernel)
set_option maxRecDepth 65536 in
theorem w_c1 : (Jvm.Cond.code ({ cls := "com/example/measurewright/measurewright/XmlWriter", name := "isCharacter", desc := "(I)Z" } : Jvm.MethodName) prog_31_method_2_code (1 : Nat) (Option.some Jvm.ClassFile.FieldType.boolean)).before args0 about1 = true := code_word (m := ⟨2, 0⟩) (meth := k2m0) (c := k2c0) (by decide +kernel) rfl rfl rfl (by decide +kernel)
set_option maxRecDepth 65536 in
theorem w_c2 : (Jvm.Cond.code ({ cls := "com/example/measurewright/measurewright/XmlWriterIsCharacterPinLaw", name := "xmlChar", desc := "(I)Z" } : Jvm.MethodName) method_2_code (1 : Nat) (Option.some Jvm.ClassFile.FieldType.boolean)).before args0 about1 = true := code_word (m := ⟨1, 1⟩) (meth := k1m1) (c := k1c1) (by decide +kernel) rfl rfl rfl (by decide +kernel)
def codes1 : List Jvm.Cond := [Jvm.Cond.code x code maxLocals ret, Jvm.Cond.code ({ cls := "com/example/measurewright/measurewright/XmlWriter", name := "isCharacter", desc := "(I)Z" } : Jvm.MethodName) prog_31_method_2_code (1 : Nat) (Option.some Jvm.ClassFile.FieldType.boolean), Jvm.Cond.code ({ cls := "com/example/measurewright/measurewright/XmlWriterIsCharacterPinLaw", name := "xmlChar", desc := "(I)Z" } : Jvm.MethodName) method_2_code (1 : Nat) (Option.some Jvm.ClassFile.FieldType.boolean)]
set_option maxRecDepth 65536 in
theorem codes_eq : words1.filter isCode = codes1 := rfl
theorem w_codes : ∀ c ∈ words1.filter isCode, c.before args0 about1 = true := by
  rw [codes_eq]
  intro c hc
  simp only [codes1, List.mem_cons, List.not_mem_nil, or_false] at hc
  rcases hc with rfl | rfl | rfl
  · exact w_c0
  · exact w_c1
  · exact w_c2
set_option maxRecDepth 65536 in
theorem w_t1 : words1.all (fun c => isCode c || c.before args0 about1) = true := by decide +kernel
theorem w_tables : (allAtoms (Jvm.Cond.code x code maxLocals ret :: tables_1)).before args0 about1 = true := by
  rw [allAtoms_all]
  show words1.all (fun c => c.before args0 about1) = true
  refine all_split ?_ w_codes
  rw [w_t1]
set_option maxRecDepth 65536 in
theorem w_case : (Jvm.Cond.and given_1 narrow_1).before args0 about1 = true := by decide +kernel
theorem w_applies : (headSpec (Jvm.Cond.code x code maxLocals ret :: tables_1) room_1).applies x e0.platform about1 = true :=
  (Spec.applies_iff w_frames).mpr ⟨w_running, w_runnable, w_alone, w_named, w_hears, w_ripe, w_room, w_tables⟩
theorem atStart : AtStart classFile x code maxLocals ret World_1 tables_1 room_1 Calls_1 rest_1 Pre_1 launch0 p0 e0 about1 theMethod args0 below0 :=
  ⟨lists_1, trivial, launch0.admits_env _ _ _, launch0.least_env, fairChoices_fair.cas, fairChoices_fair.clock, w_frames, w_args, w_heap, w_applies, trivial, trivial, w_case⟩
end start1
theorem witness_1 : WitnessClaimed_1 := ⟨start1.p0, start1.e0, start1.about1, start1.theMethod, start1.args0, start1.below0, start1.atStart⟩
end Jvm.Pilot.@@N@@
