import JvmDerived
import JvmDerived.Pilot.@@N@@Statement
import JvmDerived.Pilot.@@N@@Code
set_option linter.unusedVariables false
set_option linter.unusedSimpArgs false
namespace Jvm.RoadKit
open Sem ClassFile Op Lib Jvm.Stand Jvm.Free Jvm.LawKit
section New
variable {p : Program} {l : Launch} {e : Env} {R : Room} {s : State} {m : MethodId} {args : Array Value} {below : List Frame} {meth : Method} {c : Code} {T : State} {locs : List Loc} {cells slots : Nat}
theorem retI (X : Stand p l e R s m args below meth c T locs cells slots) (hx : p.tables.exec = Jvm.exec) {pc : Nat} {Ls : Array Slot} {z : Int32} {rest : List Value} (hret : meth.sig.returnType = some .int) (hd : decode c.code pc = .ok (.ireturn, 1)) {fs : List Frame}
    (hl : ∀ (f : JFrame) (acts : List Action), f.method = m → f.locked = none → f.entered = [] → (doReturn e (T.setTop f) acts (some (.int z))).1 = T.setFrames fs) : Steps p.tables e below (T.setTop (mkF m pc Ls (.int z :: rest))) (T.setFrames fs) :=
  retOut X hx hret rfl (Or.inl ⟨rfl, Or.inl rfl, _, rfl⟩) hd hl
end New
end Jvm.RoadKit
namespace Jvm.Pilot.@@N@@
open Jvm Jvm.ClassFile Sem Op Lib Jvm.Free Jvm.Stand Jvm.LawKit Jvm.RoadKit Bundle Jvm.Pilot.@@N@@.Jvm.D
/-- what a body that writes nothing leaves: its value, no place written, the heap as it was -/
def PQ (w : Option Value) (h0 : Heap) (n0 : Nat) (v : Option Value) (h : Heap) (L : List Loc) : Prop := v = w ∧ Fr n0 L ∧ h = h0
theorem own_pd0 : parseMethodDescriptor "(J)J" = some ⟨[.long], some .long⟩ := by decide +kernel
theorem own_pd1 : parseMethodDescriptor "(I)J" = some ⟨[.int], some .long⟩ := by decide +kernel
theorem own_rng32 (n : Int32) : -2147483648 ≤ n.toInt ∧ n.toInt < 2147483648 := rng32 n
theorem own_sqb (a : Int) (h1 : -2147483648 ≤ a) (h2 : a < 2147483648) : 0 ≤ a * a ∧ a * a ≤ 4611686018427387904 := by
  have e := mc (a := a) (b := a) (l1 := -2147483648) (h1 := 2147483648) (l2 := -2147483648) (h2 := 2147483648) (by omega) (by omega) (by omega) (by omega)
  have e2 : 0 ≤ a * a := by
    rcases Int.le_total 0 a with q | q
    · exact Int.mul_nonneg q q
    · exact Int.mul_nonneg_of_nonpos_of_nonpos q q
  omega
theorem own_sq (n : Int32) : (n.toInt64 * n.toInt64).toInt = n.toInt * n.toInt := by
  have q := c_lmul n.toInt64 n.toInt64
  rw [c_i2l] at q
  have r := own_sqb n.toInt (rng32 n).1 (rng32 n).2
  have r2 := rng64 (n.toInt64 * n.toInt64)
  generalize n.toInt * n.toInt = z at *
  omega
theorem own_sq_pos {n : Int32} (hz : ¬ (n = (0 : Int32))) : 0 < n.toInt * n.toInt := by
  have h : n.toInt ≠ 0 := fun e => hz (Int32.toInt_inj.mp (by rw [e]; rfl))
  rcases Int.lt_or_gt_of_ne h with q | q
  · exact Int.mul_pos_of_neg_of_neg q q
  · exact Int.mul_pos q q
theorem own_sq_ne {n : Int32} (hz : ¬ (n = (0 : Int32))) : (n.toInt64 * n.toInt64) ≠ 0 := fun e => by
  have h := own_sq_pos hz
  rw [← own_sq, e] at h
  exact absurd h (by decide)
theorem own_d_jdk_29_method_61_code_0 : decode jdk_29_method_61_code 0 = .ok (.lload_n 0, 1) := by decide +kernel
theorem own_d_jdk_29_method_61_code_1 : decode jdk_29_method_61_code 1 = .ok (.lconst 0, 1) := by decide +kernel
theorem own_d_jdk_29_method_61_code_2 : decode jdk_29_method_61_code 2 = .ok (.lcmp, 1) := by decide +kernel
theorem own_d_jdk_29_method_61_code_3 : decode jdk_29_method_61_code 3 = .ok (.ifCond .ge 8, 3) := by decide +kernel
theorem own_d_jdk_29_method_61_code_6 : decode jdk_29_method_61_code 6 = .ok (.lload_n 0, 1) := by decide +kernel
theorem own_d_jdk_29_method_61_code_7 : decode jdk_29_method_61_code 7 = .ok (.lneg, 1) := by decide +kernel
theorem own_d_jdk_29_method_61_code_8 : decode jdk_29_method_61_code 8 = .ok (.goto 4, 3) := by decide +kernel
theorem own_d_jdk_29_method_61_code_11 : decode jdk_29_method_61_code 11 = .ok (.lload_n 0, 1) := by decide +kernel
theorem own_d_jdk_29_method_61_code_12 : decode jdk_29_method_61_code 12 = .ok (.lreturn, 1) := by decide +kernel
theorem own_ef_rm1 (m : MethodId) (q1 : Int64) : entryFrame m #[(.long q1)] 2 = mkF m 0 #[.val (.long q1), .second] [] := by first | (simp [entryFrame, mkF, argsToLocals, Value.category, maxLocals]; done) | rfl
def own_f_rm1 (q1 : Int64) : Int64 := if (lcmpW q1 (0 : Int64)) < (0 : Int32) then (-q1)
  else q1
set_option maxRecDepth 65536 in
set_option maxHeartbeats 40000000 in
theorem rm1 (l : Launch) (Z : State) (a0 : Array Value) (hw : ∀ d ∈ tables_1, d.before a0 Z = true) (ws : List Jvm.Cond) (h0 : Heap) (n0 : Nat) (q1 : Int64)  :
    MetFree l (⟨"java/lang/Math", "abs", "(J)J"⟩ : MethodName) (head1 (Jvm.Cond.code (⟨"java/lang/Math", "abs", "(J)J"⟩ : MethodName) jdk_29_method_61_code 2 (some .long) :: ws) ({ frames := 0, cells := 0, slots := 0, locals := 0 } : Room)) (fun a U => a = #[(.long q1)] ∧ Z.Warmed39 U.vm ∧ U.heap = h0) (fun _ _ _ _ _ => True) (fun _ U o U' => ∃ v L, o = .returned v ∧ (PQ (some (.long (own_f_rm1 q1))) h0 n0) v U'.heap L ∧ FrameEnd U o U' L ({ frames := 0, cells := 0, slots := 0, locals := 0 } : Room).cells ({ frames := 0, cells := 0, slots := 0, locals := 0 } : Room).slots) := by
  refine MetFree.of_bodySF (Jvm.Free.JP.mathPlain rfl (by decide +kernel)) hisR ?_
  intro p e s m args below meth c s₁ Bd hml0 hP hK
  obtain ⟨rfl, hZ, hh⟩ := hP
  have hx := Bd.exec
  have hby := Bd.bytes
  have hml : c.maxLocals = 2 := hml0
  have hown : s.vm.findClass "java/lang/Math" = some m.cls := findClass_of_methodNamed Bd.named
  have hnm := (name_of_methodNamed Bd.named Bd.method).1
  have X0 : Stand p l e ({ frames := 0, cells := 0, slots := 0, locals := 0 } : Room) s m #[(.long q1)] below meth c s₁ [] 0 0 := Stand.of_body Bd
  have e0 : s₁.heap = h0 := by rw [← hh, Bd.state]; rfl
  have N0 := Fr.nil n0
  have pre0 : ∀ t, Steps p.tables e below (s₁.setTop (mkF m 0 #[.val (.long q1), .second] [])) t → Steps p.tables e below (s₁.setTop (entryFrame m #[(.long q1)] 2)) t := fun t k => castTop (own_ef_rm1 m q1) k
  have pre1 : ∀ t, Steps p.tables e below (s₁.setTop (mkF m 3 #[.val (.long q1), .second] [(.int (lcmpW q1 (0 : Int64)))])) t → Steps p.tables e below (s₁.setTop (entryFrame m #[(.long q1)] 2)) t := fun t k => pre0 t (by
    show Steps p.tables e below (s₁.setTop (mkF m 0 #[.val (.long q1), .second] [])) _
    refine XS.lloadN X0.here hx rfl (hb hby own_d_jdk_29_method_61_code_0) rfl ?_
    show Steps p.tables e below (s₁.setTop (mkF m 1 #[.val (.long q1), .second] [(.long q1)])) _
    refine XS.lconst X0.here hx rfl (hb hby own_d_jdk_29_method_61_code_1) ?_
    show Steps p.tables e below (s₁.setTop (mkF m 2 #[.val (.long q1), .second] [(.long (0 : Int64)), (.long q1)])) _
    refine XS.lcmp X0.here hx rfl (hb hby own_d_jdk_29_method_61_code_2) rfl ?_
    exact k)
  by_cases hc3_2 : (lcmpW q1 (0 : Int64)) < (0 : Int32)
  · obtain ⟨fs, hr, hrun, hended, hW, hsame⟩ := X0.leave (v := some (.long (-q1))) (fun h => by rw [Bd.returns] at h; cases h)
    refine ⟨_, _, pre1 _ ?_, hrun, hended, _, _, rfl, ?_, ⟨_, rfl⟩, hW, hsame.mono (by decide) (by decide)⟩
    · show Steps p.tables e below (s₁.setTop (mkF m 3 #[.val (.long q1), .second] [(.int (lcmpW q1 (0 : Int64)))])) _
      refine XS.ifNo X0.here hx rfl (hb hby own_d_jdk_29_method_61_code_3) rfl ((if0 _ _).trans (tlt hc3_2).2.1) ?_
      show Steps p.tables e below (s₁.setTop (mkF m 6 #[.val (.long q1), .second] [])) _
      refine XS.lloadN X0.here hx rfl (hb hby own_d_jdk_29_method_61_code_6) rfl ?_
      show Steps p.tables e below (s₁.setTop (mkF m 7 #[.val (.long q1), .second] [(.long q1)])) _
      refine XS.lneg X0.here hx rfl (hb hby own_d_jdk_29_method_61_code_7) rfl ?_
      show Steps p.tables e below (s₁.setTop (mkF m 8 #[.val (.long q1), .second] [(.long (-q1))])) _
      refine XS.goto X0.here hx rfl (pc0 := 8) (pc' := 12) rfl (hb hby own_d_jdk_29_method_61_code_8) (by decide) (by decide) ?_
      show Steps p.tables e below (s₁.setTop (mkF m 12 #[.val (.long q1), .second] [(.long (-q1))])) _
      exact retOut X0 hx Bd.returns rfl (Or.inr (Or.inl ⟨rfl, rfl, _, rfl⟩)) (hb hby own_d_jdk_29_method_61_code_12) hr
    · show PQ (some (.long (own_f_rm1 q1))) h0 n0 _ s₁.heap _
      rw [e0]
      exact ⟨congrArg (fun z => some (Value.long z)) (by unfold own_f_rm1; rw [if_pos hc3_2]), N0, rfl⟩
  · obtain ⟨fs, hr, hrun, hended, hW, hsame⟩ := X0.leave (v := some (.long q1)) (fun h => by rw [Bd.returns] at h; cases h)
    refine ⟨_, _, pre1 _ ?_, hrun, hended, _, _, rfl, ?_, ⟨_, rfl⟩, hW, hsame.mono (by decide) (by decide)⟩
    · show Steps p.tables e below (s₁.setTop (mkF m 3 #[.val (.long q1), .second] [(.int (lcmpW q1 (0 : Int64)))])) _
      refine XS.ifYes X0.here hx rfl (pc0 := 3) (pc' := 11) rfl (hb hby own_d_jdk_29_method_61_code_3) rfl ((if0 _ _).trans (flt hc3_2).2.1) (by decide) (by decide) ?_
      show Steps p.tables e below (s₁.setTop (mkF m 11 #[.val (.long q1), .second] [])) _
      refine XS.lloadN X0.here hx rfl (hb hby own_d_jdk_29_method_61_code_11) rfl ?_
      show Steps p.tables e below (s₁.setTop (mkF m 12 #[.val (.long q1), .second] [(.long q1)])) _
      exact retOut X0 hx Bd.returns rfl (Or.inr (Or.inl ⟨rfl, rfl, _, rfl⟩)) (hb hby own_d_jdk_29_method_61_code_12) hr
    · show PQ (some (.long (own_f_rm1 q1))) h0 n0 _ s₁.heap _
      rw [e0]
      exact ⟨congrArg (fun z => some (Value.long z)) (by unfold own_f_rm1; rw [if_neg hc3_2]), N0, rfl⟩
theorem own_d_prog_6_method_6_code_0 : decode prog_6_method_6_code 0 = .ok (.iload_n 0, 1) := by decide +kernel
theorem own_d_prog_6_method_6_code_1 : decode prog_6_method_6_code 1 = .ok (.i2l, 1) := by decide +kernel
theorem own_d_prog_6_method_6_code_2 : decode prog_6_method_6_code 2 = .ok (.iload_n 0, 1) := by decide +kernel
theorem own_d_prog_6_method_6_code_3 : decode prog_6_method_6_code 3 = .ok (.i2l, 1) := by decide +kernel
theorem own_d_prog_6_method_6_code_4 : decode prog_6_method_6_code 4 = .ok (.lmul, 1) := by decide +kernel
theorem own_d_prog_6_method_6_code_5 : decode prog_6_method_6_code 5 = .ok (.lstore_n 1, 1) := by decide +kernel
theorem own_d_prog_6_method_6_code_6 : decode prog_6_method_6_code 6 = .ok (.ldc2_w 81, 3) := by decide +kernel
theorem own_d_prog_6_method_6_code_9 : decode prog_6_method_6_code 9 = .ok (.lstore_n 3, 1) := by decide +kernel
theorem own_d_prog_6_method_6_code_10 : decode prog_6_method_6_code 10 = .ok (.lload_n 1, 1) := by decide +kernel
theorem own_d_prog_6_method_6_code_11 : decode prog_6_method_6_code 11 = .ok (.ldc2_w 81, 3) := by decide +kernel
theorem own_d_prog_6_method_6_code_14 : decode prog_6_method_6_code 14 = .ok (.lload_n 1, 1) := by decide +kernel
theorem own_d_prog_6_method_6_code_15 : decode prog_6_method_6_code 15 = .ok (.ldiv, 1) := by decide +kernel
theorem own_d_prog_6_method_6_code_16 : decode prog_6_method_6_code 16 = .ok (.lcmp, 1) := by decide +kernel
theorem own_d_prog_6_method_6_code_17 : decode prog_6_method_6_code 17 = .ok (.ifCond .gt 7, 3) := by decide +kernel
theorem own_d_prog_6_method_6_code_20 : decode prog_6_method_6_code 20 = .ok (.lload_n 1, 1) := by decide +kernel
theorem own_d_prog_6_method_6_code_21 : decode prog_6_method_6_code 21 = .ok (.lload_n 1, 1) := by decide +kernel
theorem own_d_prog_6_method_6_code_22 : decode prog_6_method_6_code 22 = .ok (.lmul, 1) := by decide +kernel
theorem own_d_prog_6_method_6_code_23 : decode prog_6_method_6_code 23 = .ok (.lstore_n 3, 1) := by decide +kernel
theorem own_d_prog_6_method_6_code_24 : decode prog_6_method_6_code 24 = .ok (.lload_n 3, 1) := by decide +kernel
theorem own_d_prog_6_method_6_code_25 : decode prog_6_method_6_code 25 = .ok (.lreturn, 1) := by decide +kernel
theorem own_pn0 : plainName "com/example/ringleader/ringleader/election/RefereeElection" = true := by first | (simp [plainName, overriddenIn]; done) | decide +kernel
theorem own_ef_rm2 (m : MethodId) (q1 : Int32) : entryFrame m #[(.int q1)] 5 = mkF m 0 #[.val (.int q1), .unset, .unset, .unset, .unset] [] := by first | (simp [entryFrame, mkF, argsToLocals, Value.category, maxLocals]; done) | rfl
def own_f_rm2 (q1 : Int32) : Int64 := if (0 : Int32) < (lcmpW ((q1.toInt64) * (q1.toInt64)) ((9223372036854775807 : Int64) / ((q1.toInt64) * (q1.toInt64)))) then (9223372036854775807 : Int64)
  else (((q1.toInt64) * (q1.toInt64)) * ((q1.toInt64) * (q1.toInt64)))
set_option maxRecDepth 65536 in
set_option maxHeartbeats 40000000 in
theorem rm2 (l : Launch) (Z : State) (a0 : Array Value) (hw : ∀ d ∈ tables_1, d.before a0 Z = true) (ws : List Jvm.Cond) (h0 : Heap) (n0 : Nat) (q1 : Int32) (hz : ¬ (q1 = (0 : Int32))) :
    MetFree l (⟨"com/example/ringleader/ringleader/election/RefereeElection", "rankBound", "(I)J"⟩ : MethodName) (head1 (Jvm.Cond.code (⟨"com/example/ringleader/ringleader/election/RefereeElection", "rankBound", "(I)J"⟩ : MethodName) prog_6_method_6_code 5 (some .long) :: ws) ({ frames := 0, cells := 0, slots := 0, locals := 0 } : Room)) (fun a U => a = #[(.int q1)] ∧ Z.Warmed39 U.vm ∧ U.heap = h0) (fun _ _ _ _ _ => True) (fun _ U o U' => ∃ v L, o = .returned v ∧ (PQ (some (.long (own_f_rm2 q1))) h0 n0) v U'.heap L ∧ FrameEnd U o U' L ({ frames := 0, cells := 0, slots := 0, locals := 0 } : Room).cells ({ frames := 0, cells := 0, slots := 0, locals := 0 } : Room).slots) := by
  refine MetFree.of_bodySF (plainFor_of_name own_pn0) hisR ?_
  intro p e s m args below meth c s₁ Bd hml0 hP hK
  obtain ⟨rfl, hZ, hh⟩ := hP
  have hx := Bd.exec
  have hby := Bd.bytes
  have hml : c.maxLocals = 5 := hml0
  have hown : s.vm.findClass "com/example/ringleader/ringleader/election/RefereeElection" = some m.cls := findClass_of_methodNamed Bd.named
  have hnm := (name_of_methodNamed Bd.named Bd.method).1
  have X0 : Stand p l e ({ frames := 0, cells := 0, slots := 0, locals := 0 } : Room) s m #[(.int q1)] below meth c s₁ [] 0 0 := Stand.of_body Bd
  have e0 : s₁.heap = h0 := by rw [← hh, Bd.state]; rfl
  have N0 := Fr.nil n0
  have pre0 : ∀ t, Steps p.tables e below (s₁.setTop (mkF m 0 #[.val (.int q1), .unset, .unset, .unset, .unset] [])) t → Steps p.tables e below (s₁.setTop (entryFrame m #[(.int q1)] 5)) t := fun t k => castTop (own_ef_rm2 m q1) k
  have pre3 : ∀ t, Steps p.tables e below (s₁.setTop (mkF m 17 #[.val (.int q1), .val (.long ((q1.toInt64) * (q1.toInt64))), .second, .val (.long (9223372036854775807 : Int64)), .second] [(.int (lcmpW ((q1.toInt64) * (q1.toInt64)) ((9223372036854775807 : Int64) / ((q1.toInt64) * (q1.toInt64)))))])) t → Steps p.tables e below (s₁.setTop (entryFrame m #[(.int q1)] 5)) t := fun t k => pre0 t (by
    show Steps p.tables e below (s₁.setTop (mkF m 0 #[.val (.int q1), .unset, .unset, .unset, .unset] [])) _
    refine XS.iloadN X0.here hx rfl (hb hby own_d_prog_6_method_6_code_0) rfl ?_
    show Steps p.tables e below (s₁.setTop (mkF m 1 #[.val (.int q1), .unset, .unset, .unset, .unset] [(.int q1)])) _
    refine XS.i2l X0.here hx rfl (hb hby own_d_prog_6_method_6_code_1) rfl ?_
    show Steps p.tables e below (s₁.setTop (mkF m 2 #[.val (.int q1), .unset, .unset, .unset, .unset] [(.long (q1.toInt64))])) _
    refine XS.iloadN X0.here hx rfl (hb hby own_d_prog_6_method_6_code_2) rfl ?_
    show Steps p.tables e below (s₁.setTop (mkF m 3 #[.val (.int q1), .unset, .unset, .unset, .unset] [(.int q1), (.long (q1.toInt64))])) _
    refine XS.i2l X0.here hx rfl (hb hby own_d_prog_6_method_6_code_3) rfl ?_
    show Steps p.tables e below (s₁.setTop (mkF m 4 #[.val (.int q1), .unset, .unset, .unset, .unset] [(.long (q1.toInt64)), (.long (q1.toInt64))])) _
    refine XS.lmul X0.here hx rfl (hb hby own_d_prog_6_method_6_code_4) rfl ?_
    show Steps p.tables e below (s₁.setTop (mkF m 5 #[.val (.int q1), .unset, .unset, .unset, .unset] [(.long ((q1.toInt64) * (q1.toInt64)))])) _
    refine XS.lstoreN X0.here hx rfl (hb hby own_d_prog_6_method_6_code_5) rfl (l' := #[.val (.int q1), .val (.long ((q1.toInt64) * (q1.toInt64))), .second, .unset, .unset]) rfl ?_
    show Steps p.tables e below (s₁.setTop (mkF m 6 #[.val (.int q1), .val (.long ((q1.toInt64) * (q1.toInt64))), .second, .unset, .unset] [])) _
    refine X0.ldc2Long hx hown (mvT hZ (hw _ (List.mem_of_getElem? (i := 9) rfl))) (g := (mkF m 6 #[.val (.int q1), .val (.long ((q1.toInt64) * (q1.toInt64))), .second, .unset, .unset] [])) rfl (hb hby own_d_prog_6_method_6_code_6) _ ?_
    show Steps p.tables e below (s₁.setTop (mkF m 9 #[.val (.int q1), .val (.long ((q1.toInt64) * (q1.toInt64))), .second, .unset, .unset] [(.long (9223372036854775807 : Int64))])) _
    refine XS.lstoreN X0.here hx rfl (hb hby own_d_prog_6_method_6_code_9) rfl (l' := #[.val (.int q1), .val (.long ((q1.toInt64) * (q1.toInt64))), .second, .val (.long (9223372036854775807 : Int64)), .second]) rfl ?_
    show Steps p.tables e below (s₁.setTop (mkF m 10 #[.val (.int q1), .val (.long ((q1.toInt64) * (q1.toInt64))), .second, .val (.long (9223372036854775807 : Int64)), .second] [])) _
    refine XS.lloadN X0.here hx rfl (hb hby own_d_prog_6_method_6_code_10) rfl ?_
    show Steps p.tables e below (s₁.setTop (mkF m 11 #[.val (.int q1), .val (.long ((q1.toInt64) * (q1.toInt64))), .second, .val (.long (9223372036854775807 : Int64)), .second] [(.long ((q1.toInt64) * (q1.toInt64)))])) _
    refine X0.ldc2Long hx hown (mvT hZ (hw _ (List.mem_of_getElem? (i := 9) rfl))) (g := (mkF m 11 #[.val (.int q1), .val (.long ((q1.toInt64) * (q1.toInt64))), .second, .val (.long (9223372036854775807 : Int64)), .second] [(.long ((q1.toInt64) * (q1.toInt64)))])) rfl (hb hby own_d_prog_6_method_6_code_11) _ ?_
    show Steps p.tables e below (s₁.setTop (mkF m 14 #[.val (.int q1), .val (.long ((q1.toInt64) * (q1.toInt64))), .second, .val (.long (9223372036854775807 : Int64)), .second] [(.long (9223372036854775807 : Int64)), (.long ((q1.toInt64) * (q1.toInt64)))])) _
    refine XS.lloadN X0.here hx rfl (hb hby own_d_prog_6_method_6_code_14) rfl ?_
    show Steps p.tables e below (s₁.setTop (mkF m 15 #[.val (.int q1), .val (.long ((q1.toInt64) * (q1.toInt64))), .second, .val (.long (9223372036854775807 : Int64)), .second] [(.long ((q1.toInt64) * (q1.toInt64))), (.long (9223372036854775807 : Int64)), (.long ((q1.toInt64) * (q1.toInt64)))])) _
    refine XS.ldiv X0.here hx rfl (hb hby own_d_prog_6_method_6_code_15) rfl (own_sq_ne hz) ?_
    show Steps p.tables e below (s₁.setTop (mkF m 16 #[.val (.int q1), .val (.long ((q1.toInt64) * (q1.toInt64))), .second, .val (.long (9223372036854775807 : Int64)), .second] [(.long ((9223372036854775807 : Int64) / ((q1.toInt64) * (q1.toInt64)))), (.long ((q1.toInt64) * (q1.toInt64)))])) _
    refine XS.lcmp X0.here hx rfl (hb hby own_d_prog_6_method_6_code_16) rfl ?_
    exact k)
  by_cases hc17_4 : (0 : Int32) < (lcmpW ((q1.toInt64) * (q1.toInt64)) ((9223372036854775807 : Int64) / ((q1.toInt64) * (q1.toInt64))))
  · obtain ⟨fs, hr, hrun, hended, hW, hsame⟩ := X0.leave (v := some (.long (9223372036854775807 : Int64))) (fun h => by rw [Bd.returns] at h; cases h)
    refine ⟨_, _, pre3 _ ?_, hrun, hended, _, _, rfl, ?_, ⟨_, rfl⟩, hW, hsame.mono (by decide) (by decide)⟩
    · show Steps p.tables e below (s₁.setTop (mkF m 17 #[.val (.int q1), .val (.long ((q1.toInt64) * (q1.toInt64))), .second, .val (.long (9223372036854775807 : Int64)), .second] [(.int (lcmpW ((q1.toInt64) * (q1.toInt64)) ((9223372036854775807 : Int64) / ((q1.toInt64) * (q1.toInt64)))))])) _
      refine XS.ifYes X0.here hx rfl (pc0 := 17) (pc' := 24) rfl (hb hby own_d_prog_6_method_6_code_17) rfl ((if0 _ _).trans (tlt hc17_4).2.2.1) (by decide) (by decide) ?_
      show Steps p.tables e below (s₁.setTop (mkF m 24 #[.val (.int q1), .val (.long ((q1.toInt64) * (q1.toInt64))), .second, .val (.long (9223372036854775807 : Int64)), .second] [])) _
      refine XS.lloadN X0.here hx rfl (hb hby own_d_prog_6_method_6_code_24) rfl ?_
      show Steps p.tables e below (s₁.setTop (mkF m 25 #[.val (.int q1), .val (.long ((q1.toInt64) * (q1.toInt64))), .second, .val (.long (9223372036854775807 : Int64)), .second] [(.long (9223372036854775807 : Int64))])) _
      exact retOut X0 hx Bd.returns rfl (Or.inr (Or.inl ⟨rfl, rfl, _, rfl⟩)) (hb hby own_d_prog_6_method_6_code_25) hr
    · show PQ (some (.long (own_f_rm2 q1))) h0 n0 _ s₁.heap _
      rw [e0]
      exact ⟨congrArg (fun z => some (Value.long z)) (by unfold own_f_rm2; rw [if_pos hc17_4]), N0, rfl⟩
  · obtain ⟨fs, hr, hrun, hended, hW, hsame⟩ := X0.leave (v := some (.long (((q1.toInt64) * (q1.toInt64)) * ((q1.toInt64) * (q1.toInt64))))) (fun h => by rw [Bd.returns] at h; cases h)
    refine ⟨_, _, pre3 _ ?_, hrun, hended, _, _, rfl, ?_, ⟨_, rfl⟩, hW, hsame.mono (by decide) (by decide)⟩
    · show Steps p.tables e below (s₁.setTop (mkF m 17 #[.val (.int q1), .val (.long ((q1.toInt64) * (q1.toInt64))), .second, .val (.long (9223372036854775807 : Int64)), .second] [(.int (lcmpW ((q1.toInt64) * (q1.toInt64)) ((9223372036854775807 : Int64) / ((q1.toInt64) * (q1.toInt64)))))])) _
      refine XS.ifNo X0.here hx rfl (hb hby own_d_prog_6_method_6_code_17) rfl ((if0 _ _).trans (flt hc17_4).2.2.1) ?_
      show Steps p.tables e below (s₁.setTop (mkF m 20 #[.val (.int q1), .val (.long ((q1.toInt64) * (q1.toInt64))), .second, .val (.long (9223372036854775807 : Int64)), .second] [])) _
      refine XS.lloadN X0.here hx rfl (hb hby own_d_prog_6_method_6_code_20) rfl ?_
      show Steps p.tables e below (s₁.setTop (mkF m 21 #[.val (.int q1), .val (.long ((q1.toInt64) * (q1.toInt64))), .second, .val (.long (9223372036854775807 : Int64)), .second] [(.long ((q1.toInt64) * (q1.toInt64)))])) _
      refine XS.lloadN X0.here hx rfl (hb hby own_d_prog_6_method_6_code_21) rfl ?_
      show Steps p.tables e below (s₁.setTop (mkF m 22 #[.val (.int q1), .val (.long ((q1.toInt64) * (q1.toInt64))), .second, .val (.long (9223372036854775807 : Int64)), .second] [(.long ((q1.toInt64) * (q1.toInt64))), (.long ((q1.toInt64) * (q1.toInt64)))])) _
      refine XS.lmul X0.here hx rfl (hb hby own_d_prog_6_method_6_code_22) rfl ?_
      show Steps p.tables e below (s₁.setTop (mkF m 23 #[.val (.int q1), .val (.long ((q1.toInt64) * (q1.toInt64))), .second, .val (.long (9223372036854775807 : Int64)), .second] [(.long (((q1.toInt64) * (q1.toInt64)) * ((q1.toInt64) * (q1.toInt64))))])) _
      refine XS.lstoreN X0.here hx rfl (hb hby own_d_prog_6_method_6_code_23) rfl (l' := #[.val (.int q1), .val (.long ((q1.toInt64) * (q1.toInt64))), .second, .val (.long (((q1.toInt64) * (q1.toInt64)) * ((q1.toInt64) * (q1.toInt64)))), .second]) rfl ?_
      show Steps p.tables e below (s₁.setTop (mkF m 24 #[.val (.int q1), .val (.long ((q1.toInt64) * (q1.toInt64))), .second, .val (.long (((q1.toInt64) * (q1.toInt64)) * ((q1.toInt64) * (q1.toInt64)))), .second] [])) _
      refine XS.lloadN X0.here hx rfl (hb hby own_d_prog_6_method_6_code_24) rfl ?_
      show Steps p.tables e below (s₁.setTop (mkF m 25 #[.val (.int q1), .val (.long ((q1.toInt64) * (q1.toInt64))), .second, .val (.long (((q1.toInt64) * (q1.toInt64)) * ((q1.toInt64) * (q1.toInt64)))), .second] [(.long (((q1.toInt64) * (q1.toInt64)) * ((q1.toInt64) * (q1.toInt64))))])) _
      exact retOut X0 hx Bd.returns rfl (Or.inr (Or.inl ⟨rfl, rfl, _, rfl⟩)) (hb hby own_d_prog_6_method_6_code_25) hr
    · show PQ (some (.long (own_f_rm2 q1))) h0 n0 _ s₁.heap _
      rw [e0]
      exact ⟨congrArg (fun z => some (Value.long z)) (by unfold own_f_rm2; rw [if_neg hc17_4]), N0, rfl⟩
theorem own_absv (n : Int32) : (own_f_rm1 n.toInt64).toInt = if n.toInt < 0 then -n.toInt else n.toInt := by
  have r := rng32 n
  have e : (lcmpW n.toInt64 (0 : Int64) < (0 : Int32)) = (n.toInt < 0) := by
    rw [lw_lt, Int64.lt_iff_toInt_lt, c_i2l]; rfl
  unfold own_f_rm1
  by_cases h : n.toInt < 0
  · rw [if_pos h, if_pos (e ▸ h)]
    have q := c_lneg n.toInt64
    rw [c_i2l] at q
    have r2 := rng64 (-n.toInt64)
    omega
  · rw [if_neg h, if_neg (e ▸ h), c_i2l]
theorem own_a2 (n : Int32) : (own_f_rm1 n.toInt64).toInt * (own_f_rm1 n.toInt64).toInt = n.toInt * n.toInt := by
  rw [own_absv]
  split
  · rw [Int.neg_mul_neg]
  · rfl
theorem own_div {n : Int32} (hz : ¬ (n = (0 : Int32))) : ((9223372036854775807 : Int64) / (n.toInt64 * n.toInt64)).toInt = 9223372036854775807 / (n.toInt * n.toInt) :=
  (c_ldiv (9223372036854775807 : Int64) (n.toInt64 * n.toInt64) (n.toInt * n.toInt) (own_sq n) (fun e => by have h := own_sq_pos hz; rw [← own_sq, e] at h; exact absurd h (by decide))).1 (by decide)
theorem own_small {a : Int} (h1 : 0 ≤ a) (h : a ≤ 55108) : a * a ≤ 3036891664 := by
  have e := Int.mul_le_mul h h h1 (by omega : (0 : Int) ≤ 55108)
  omega
theorem own_big {a : Int} (h : 55109 ≤ a) : 3037001881 ≤ a * a := by
  have e := Int.mul_le_mul h h (by omega) (by omega : (0 : Int) ≤ a)
  omega
theorem own_abs0 (n : Int32) : 0 ≤ (own_f_rm1 n.toInt64).toInt := by
  rw [own_absv]
  have := rng32 n
  split <;> omega
theorem own_rbv {n : Int32} (hz : ¬ (n = (0 : Int32))) : own_f_rm2 n = if 9223372036854775807 / (n.toInt * n.toInt) < n.toInt * n.toInt then (9223372036854775807 : Int64) else (n.toInt64 * n.toInt64) * (n.toInt64 * n.toInt64) := by
  have e : ((0 : Int32) < lcmpW (n.toInt64 * n.toInt64) ((9223372036854775807 : Int64) / (n.toInt64 * n.toInt64))) = (9223372036854775807 / (n.toInt * n.toInt) < n.toInt * n.toInt) := by
    rw [lw_gt, Int64.lt_iff_toInt_lt, own_div hz, own_sq]
  unfold own_f_rm2
  by_cases h : 9223372036854775807 / (n.toInt * n.toInt) < n.toInt * n.toInt
  · rw [if_pos h, if_pos (e ▸ h)]
  · rw [if_neg h, if_neg (e ▸ h)]
theorem own_fin0 {n : Int32} (hz : ¬ (n = (0 : Int32))) (h : ¬ ((0 : Int32) < (lcmpW (own_f_rm1 n.toInt64) (55108 : Int64)))) : lcmpW (own_f_rm2 n) (own_f_rm1 n.toInt64 * own_f_rm1 n.toInt64 * own_f_rm1 n.toInt64 * own_f_rm1 n.toInt64) = (0 : Int32) := by
  rw [lw_gt, Int64.lt_iff_toInt_lt] at h
  have h' : (own_f_rm1 n.toInt64).toInt ≤ 55108 := Int.not_lt.mp h
  have s1 := own_small (own_abs0 n) h'
  have a2 := own_a2 n
  have s0 := own_sq_pos hz
  have s2 : (n.toInt * n.toInt) * (n.toInt * n.toInt) ≤ 3036891664 * 3036891664 := Int.mul_le_mul (by omega) (by omega) (by omega) (by decide)
  have d : n.toInt * n.toInt ≤ 9223372036854775807 / (n.toInt * n.toInt) := Int.le_ediv_of_mul_le s0 (by omega)
  have eA : own_f_rm1 n.toInt64 * own_f_rm1 n.toInt64 = n.toInt64 * n.toInt64 := by
    apply Int64.toInt_inj.mp
    rw [own_sq, ← a2]
    have q := c_lmul (own_f_rm1 n.toInt64) (own_f_rm1 n.toInt64)
    have r := rng64 (own_f_rm1 n.toInt64 * own_f_rm1 n.toInt64)
    have r0 : 0 ≤ (own_f_rm1 n.toInt64).toInt * (own_f_rm1 n.toInt64).toInt := by omega
    generalize (own_f_rm1 n.toInt64).toInt * (own_f_rm1 n.toInt64).toInt = z at *
    omega
  rw [lw_eq, own_rbv hz, if_neg (by omega), Int64.mul_assoc (own_f_rm1 n.toInt64 * own_f_rm1 n.toInt64), eA]
theorem own_fin1 {n : Int32} (hz : ¬ (n = (0 : Int32))) (h : (0 : Int32) < (lcmpW (own_f_rm1 n.toInt64) (55108 : Int64))) : lcmpW (own_f_rm2 n) (9223372036854775807 : Int64) = (0 : Int32) := by
  rw [lw_gt, Int64.lt_iff_toInt_lt] at h
  have h' : 55109 ≤ (own_f_rm1 n.toInt64).toInt := h
  have s1 := own_big h'
  have a2 := own_a2 n
  have s0 := own_sq_pos hz
  have s2 : 3037001881 * 3037001881 ≤ (n.toInt * n.toInt) * (n.toInt * n.toInt) := Int.mul_le_mul (by omega) (by omega) (by decide) (by omega)
  have d : 9223372036854775807 / (n.toInt * n.toInt) < n.toInt * n.toInt := Int.ediv_lt_of_lt_mul s0 (by omega)
  rw [lw_eq, own_rbv hz, if_pos d]
theorem own_pn1 : plainName "com/example/ringleader/ringleader/election/RefereeElectionRankBoundPinLaw" = true := by first | (simp [plainName, overriddenIn]; done) | decide +kernel
theorem own_ef_rm0 (m : MethodId) (p1 : Int32) (p2 : Int32) : entryFrame m #[(.int p1), (.int p2)] maxLocals = mkF m 0 #[.val (.int p1), .val (.int p2), .unset, .unset, .unset, .unset, .unset] [] := by first | (simp [entryFrame, mkF, argsToLocals, Value.category, maxLocals]; done) | rfl
set_option maxRecDepth 65536 in
set_option maxHeartbeats 40000000 in
theorem rm0 (l : Launch) (Z : State) (a0 : Array Value) (hw : ∀ d ∈ tables_1, d.before a0 Z = true) (ws : List Jvm.Cond) (h0 : Heap) (n0 : Nat) (p1 : Int32) (p2 : Int32)  :
    MetFree l x (head1 (Jvm.Cond.code x code maxLocals ret :: ws) room_1) (fun a U => a = #[(.int p1), (.int p2)] ∧ Z.Warmed39 U.vm ∧ U.heap = h0) (fun _ _ _ _ _ => True) (fun _ U o U' => ∃ v L, o = .returned v ∧ (PQ (some (.int (1 : Int32))) h0 n0) v U'.heap L ∧ FrameEnd U o U' L room_1.cells room_1.slots) := by
  refine MetFree.of_bodySF (plainFor_of_name own_pn1) hisR ?_
  intro p e s m args below meth c s₁ Bd hml0 hP hK
  obtain ⟨rfl, hZ, hh⟩ := hP
  have hx := Bd.exec
  have hby := Bd.bytes
  have hml : c.maxLocals = 7 := hml0
  have hown : s.vm.findClass "com/example/ringleader/ringleader/election/RefereeElectionRankBoundPinLaw" = some m.cls := findClass_of_methodNamed Bd.named
  have hnm := (name_of_methodNamed Bd.named Bd.method).1
  have X0 : Stand p l e room_1 s m #[(.int p1), (.int p2)] below meth c s₁ [] 0 0 := Stand.of_body Bd
  have e0 : s₁.heap = h0 := by rw [← hh, Bd.state]; rfl
  have N0 := Fr.nil n0
  have pre0 : ∀ t, Steps p.tables e below (s₁.setTop (mkF m 0 #[.val (.int p1), .val (.int p2), .unset, .unset, .unset, .unset, .unset] [])) t → Steps p.tables e below (s₁.setTop (entryFrame m #[(.int p1), (.int p2)] maxLocals)) t := fun t k => castTop (own_ef_rm0 m p1 p2) k
  have pre5 : ∀ t, Steps p.tables e below (s₁.setTop (mkF m 3 #[.val (.int p1), .val (.int p2), .unset, .unset, .unset, .unset, .unset] [(.int (p2 &&& (1 : Int32)))])) t → Steps p.tables e below (s₁.setTop (entryFrame m #[(.int p1), (.int p2)] maxLocals)) t := fun t k => pre0 t (by
    show Steps p.tables e below (s₁.setTop (mkF m 0 #[.val (.int p1), .val (.int p2), .unset, .unset, .unset, .unset, .unset] [])) _
    refine XS.iloadN X0.here hx rfl (hb hby at_0) rfl ?_
    show Steps p.tables e below (s₁.setTop (mkF m 1 #[.val (.int p1), .val (.int p2), .unset, .unset, .unset, .unset, .unset] [(.int p2)])) _
    refine XS.iconst X0.here hx rfl (hb hby at_1) ?_
    show Steps p.tables e below (s₁.setTop (mkF m 2 #[.val (.int p1), .val (.int p2), .unset, .unset, .unset, .unset, .unset] [(.int (1 : Int32)), (.int p2)])) _
    refine XS.iand X0.here hx rfl (hb hby at_2) rfl ?_
    exact k)
  by_cases hc3_6 : (p2 &&& (1 : Int32)) = (0 : Int32)
  · have pre7 : ∀ t, Steps p.tables e below (s₁.setTop (mkF m 16 #[.val (.int p1), .val (.int p2), .val (.int (p1 % (60000 : Int32))), .unset, .unset, .unset, .unset] [(.int (p1 % (60000 : Int32)))])) t → Steps p.tables e below (s₁.setTop (entryFrame m #[(.int p1), (.int p2)] maxLocals)) t := fun t k => pre5 t (by
      show Steps p.tables e below (s₁.setTop (mkF m 3 #[.val (.int p1), .val (.int p2), .unset, .unset, .unset, .unset, .unset] [(.int (p2 &&& (1 : Int32)))])) _
      refine XS.ifYes X0.here hx rfl (pc0 := 3) (pc' := 10) rfl (hb hby at_3) rfl ((if0 _ _).trans (teq hc3_6).1) (by decide) (by decide) ?_
      show Steps p.tables e below (s₁.setTop (mkF m 10 #[.val (.int p1), .val (.int p2), .unset, .unset, .unset, .unset, .unset] [])) _
      refine XS.iloadN X0.here hx rfl (hb hby at_10) rfl ?_
      show Steps p.tables e below (s₁.setTop (mkF m 11 #[.val (.int p1), .val (.int p2), .unset, .unset, .unset, .unset, .unset] [(.int p1)])) _
      refine X0.ldcInt hx hown (mvT hZ (hw _ (List.mem_of_getElem? (i := 10) rfl))) (g := (mkF m 11 #[.val (.int p1), .val (.int p2), .unset, .unset, .unset, .unset, .unset] [(.int p1)])) rfl (hb hby at_11) _ ?_
      show Steps p.tables e below (s₁.setTop (mkF m 13 #[.val (.int p1), .val (.int p2), .unset, .unset, .unset, .unset, .unset] [(.int (60000 : Int32)), (.int p1)])) _
      refine iremM X0 hx rfl (hb hby at_13) rfl (by decide) ?_
      show Steps p.tables e below (s₁.setTop (mkF m 14 #[.val (.int p1), .val (.int p2), .unset, .unset, .unset, .unset, .unset] [(.int (p1 % (60000 : Int32)))])) _
      refine XS.istoreN X0.here hx rfl (hb hby at_14) rfl (l' := #[.val (.int p1), .val (.int p2), .val (.int (p1 % (60000 : Int32))), .unset, .unset, .unset, .unset]) rfl ?_
      show Steps p.tables e below (s₁.setTop (mkF m 15 #[.val (.int p1), .val (.int p2), .val (.int (p1 % (60000 : Int32))), .unset, .unset, .unset, .unset] [])) _
      refine XS.iloadN X0.here hx rfl (hb hby at_15) rfl ?_
      exact k)
    by_cases hc16_8 : (p1 % (60000 : Int32)) = (0 : Int32)
    · obtain ⟨fs, hr, hrun, hended, hW, hsame⟩ := X0.leave (v := some (.int (1 : Int32))) (fun h => by rw [Bd.returns] at h; cases h)
      refine ⟨_, _, pre7 _ ?_, hrun, hended, _, _, rfl, ?_, ⟨_, rfl⟩, hW, hsame.mono (by decide) (by decide)⟩
      · show Steps p.tables e below (s₁.setTop (mkF m 16 #[.val (.int p1), .val (.int p2), .val (.int (p1 % (60000 : Int32))), .unset, .unset, .unset, .unset] [(.int (p1 % (60000 : Int32)))])) _
        refine XS.ifNo X0.here hx rfl (hb hby at_16) rfl ((if0 _ _).trans (teq hc16_8).2) ?_
        show Steps p.tables e below (s₁.setTop (mkF m 19 #[.val (.int p1), .val (.int p2), .val (.int (p1 % (60000 : Int32))), .unset, .unset, .unset, .unset] [])) _
        refine XS.iconst X0.here hx rfl (hb hby at_19) ?_
        show Steps p.tables e below (s₁.setTop (mkF m 20 #[.val (.int p1), .val (.int p2), .val (.int (p1 % (60000 : Int32))), .unset, .unset, .unset, .unset] [(.int (1 : Int32))])) _
        exact retN X0 hx (t := .boolean) Bd.returns (by simp) (hb hby at_20) hr
      · show PQ (some (.int (1 : Int32))) h0 n0 _ s₁.heap _
        rw [e0]
        exact ⟨rfl, N0, rfl⟩
    · obtain ⟨_, _, ⟨T9, L9, k9, n9⟩, -, X9, ⟨Lc9, hQ9, l9, y9, z9⟩, st9⟩ := Jvm.LawKit.callS X0 hx (y := (⟨"java/lang/Math", "abs", "(J)J"⟩ : MethodName)) hown (mvT hZ (hw _ (List.mem_of_getElem? (i := 0) rfl))) (mvT hZ (hw _ (List.mem_of_getElem? (i := 1) rfl))) (mvT hZ (hw _ (List.mem_of_getElem? (i := 2) rfl))) (mvT hZ (hw _ (List.mem_of_getElem? (i := 3) rfl))) (by decide) (backOf (W := 0) (rm1 l Z a0 hw [] h0 n0 ((p1 % (60000 : Int32)).toInt64)) hZ (hw _ (List.mem_of_getElem? (i := 3) rfl)) (hw _ (List.mem_of_getElem? (i := 2) rfl)) (by decide) (by decide)) (g := (mkF m 23 #[.val (.int p1), .val (.int p2), .val (.int (p1 % (60000 : Int32))), .unset, .unset, .unset, .unset] [(.long ((p1 % (60000 : Int32)).toInt64))])) rfl (by rw [hml]; rfl) (argsL := [(.long ((p1 % (60000 : Int32)).toInt64))]) (rest := []) (lenOf own_pd0 rfl) rfl (by show 2 * 0 + _ ≤ _; exact Nat.le_of_eq rfl) (hb hby at_23) (fun _ _ => ⟨rfl, e0, (by decide : 0 + 0 ≤ _), (by decide : 0 + 0 ≤ _)⟩)
      dsimp only [Pt.U, Pt.locs, Pt.cells, Pt.slots] at X9 l9 y9 z9 st9 hQ9
      subst l9 y9 z9
      obtain ⟨rfl, N9q, e9⟩ := hQ9
      have N9 := Fr.app N0 N9q
      have pre10 : ∀ t, Steps p.tables e below (T9.setTop (mkF m 32 #[.val (.int p1), .val (.int p2), .val (.int (p1 % (60000 : Int32))), .val (.long (own_f_rm1 ((p1 % (60000 : Int32)).toInt64))), .second, .unset, .unset] [(.int (lcmpW (own_f_rm1 ((p1 % (60000 : Int32)).toInt64)) (55108 : Int64)))])) t → Steps p.tables e below (s₁.setTop (entryFrame m #[(.int p1), (.int p2)] maxLocals)) t := fun t k => pre7 t (by
        show Steps p.tables e below (s₁.setTop (mkF m 16 #[.val (.int p1), .val (.int p2), .val (.int (p1 % (60000 : Int32))), .unset, .unset, .unset, .unset] [(.int (p1 % (60000 : Int32)))])) _
        refine XS.ifYes X0.here hx rfl (pc0 := 16) (pc' := 21) rfl (hb hby at_16) rfl ((if0 _ _).trans (feq hc16_8).2) (by decide) (by decide) ?_
        show Steps p.tables e below (s₁.setTop (mkF m 21 #[.val (.int p1), .val (.int p2), .val (.int (p1 % (60000 : Int32))), .unset, .unset, .unset, .unset] [])) _
        refine XS.iloadN X0.here hx rfl (hb hby at_21) rfl ?_
        show Steps p.tables e below (s₁.setTop (mkF m 22 #[.val (.int p1), .val (.int p2), .val (.int (p1 % (60000 : Int32))), .unset, .unset, .unset, .unset] [(.int (p1 % (60000 : Int32)))])) _
        refine XS.i2l X0.here hx rfl (hb hby at_22) rfl ?_
        show Steps p.tables e below (s₁.setTop (mkF m 23 #[.val (.int p1), .val (.int p2), .val (.int (p1 % (60000 : Int32))), .unset, .unset, .unset, .unset] [(.long ((p1 % (60000 : Int32)).toInt64))])) _
        refine st9 _ ?_
        show Steps p.tables e below (T9.setTop (mkF m 26 #[.val (.int p1), .val (.int p2), .val (.int (p1 % (60000 : Int32))), .unset, .unset, .unset, .unset] [(.long (own_f_rm1 ((p1 % (60000 : Int32)).toInt64)))])) _
        refine XS.lstoreN X9.here hx rfl (hb hby at_26) rfl (l' := #[.val (.int p1), .val (.int p2), .val (.int (p1 % (60000 : Int32))), .val (.long (own_f_rm1 ((p1 % (60000 : Int32)).toInt64))), .second, .unset, .unset]) rfl ?_
        show Steps p.tables e below (T9.setTop (mkF m 27 #[.val (.int p1), .val (.int p2), .val (.int (p1 % (60000 : Int32))), .val (.long (own_f_rm1 ((p1 % (60000 : Int32)).toInt64))), .second, .unset, .unset] [])) _
        refine XS.lloadN X9.here hx rfl (hb hby at_27) rfl ?_
        show Steps p.tables e below (T9.setTop (mkF m 28 #[.val (.int p1), .val (.int p2), .val (.int (p1 % (60000 : Int32))), .val (.long (own_f_rm1 ((p1 % (60000 : Int32)).toInt64))), .second, .unset, .unset] [(.long (own_f_rm1 ((p1 % (60000 : Int32)).toInt64)))])) _
        refine X9.ldc2Long hx hown (mvT hZ (hw _ (List.mem_of_getElem? (i := 4) rfl))) (g := (mkF m 28 #[.val (.int p1), .val (.int p2), .val (.int (p1 % (60000 : Int32))), .val (.long (own_f_rm1 ((p1 % (60000 : Int32)).toInt64))), .second, .unset, .unset] [(.long (own_f_rm1 ((p1 % (60000 : Int32)).toInt64)))])) rfl (hb hby at_28) _ ?_
        show Steps p.tables e below (T9.setTop (mkF m 31 #[.val (.int p1), .val (.int p2), .val (.int (p1 % (60000 : Int32))), .val (.long (own_f_rm1 ((p1 % (60000 : Int32)).toInt64))), .second, .unset, .unset] [(.long (55108 : Int64)), (.long (own_f_rm1 ((p1 % (60000 : Int32)).toInt64)))])) _
        refine XS.lcmp X9.here hx rfl (hb hby at_31) rfl ?_
        exact k)
      by_cases hc32_11 : (0 : Int32) < (lcmpW (own_f_rm1 ((p1 % (60000 : Int32)).toInt64)) (55108 : Int64))
      · obtain ⟨_, _, ⟨T12, L12, k12, n12⟩, -, X12, ⟨Lc12, hQ12, l12, y12, z12⟩, st12⟩ := Jvm.LawKit.callS X9 hx (y := (⟨"com/example/ringleader/ringleader/election/RefereeElection", "rankBound", "(I)J"⟩ : MethodName)) hown (mvT hZ (hw _ (List.mem_of_getElem? (i := 5) rfl))) (mvT hZ (hw _ (List.mem_of_getElem? (i := 6) rfl))) (mvT hZ (hw _ (List.mem_of_getElem? (i := 7) rfl))) (mvT hZ (hw _ (List.mem_of_getElem? (i := 8) rfl))) (by decide) (backOf (W := 0) (rm2 l Z a0 hw [] h0 n0 (p1 % (60000 : Int32)) hc16_8) hZ (hw _ (List.mem_of_getElem? (i := 8) rfl)) (hw _ (List.mem_of_getElem? (i := 7) rfl)) (by decide) (by decide)) (g := (mkF m 53 #[.val (.int p1), .val (.int p2), .val (.int (p1 % (60000 : Int32))), .val (.long (own_f_rm1 ((p1 % (60000 : Int32)).toInt64))), .second, .val (.long (9223372036854775807 : Int64)), .second] [(.int (p1 % (60000 : Int32)))])) rfl (by rw [hml]; rfl) (argsL := [(.int (p1 % (60000 : Int32)))]) (rest := []) (lenOf own_pd1 rfl) rfl (by show 2 * 0 + _ ≤ _; exact Nat.le_of_eq rfl) (hb hby at_53) (fun _ _ => ⟨rfl, e9, (by decide : 0 + 0 ≤ _), (by decide : 0 + 0 ≤ _)⟩)
        dsimp only [Pt.U, Pt.locs, Pt.cells, Pt.slots] at X12 l12 y12 z12 st12 hQ12
        subst l12 y12 z12
        obtain ⟨rfl, N12q, e12⟩ := hQ12
        have N12 := Fr.app N9 N12q
        obtain ⟨fs, hr, hrun, hended, hW, hsame⟩ := X12.leave (v := some (.int (1 : Int32))) (fun h => by rw [Bd.returns] at h; cases h)
        refine ⟨_, _, pre10 _ ?_, hrun, hended, _, _, rfl, ?_, ⟨_, rfl⟩, hW, hsame.mono (by decide) (by decide)⟩
        · show Steps p.tables e below (T9.setTop (mkF m 32 #[.val (.int p1), .val (.int p2), .val (.int (p1 % (60000 : Int32))), .val (.long (own_f_rm1 ((p1 % (60000 : Int32)).toInt64))), .second, .unset, .unset] [(.int (lcmpW (own_f_rm1 ((p1 % (60000 : Int32)).toInt64)) (55108 : Int64)))])) _
          refine XS.ifYes X9.here hx rfl (pc0 := 32) (pc' := 47) rfl (hb hby at_32) rfl ((if0 _ _).trans (tlt hc32_11).2.2.1) (by decide) (by decide) ?_
          show Steps p.tables e below (T9.setTop (mkF m 47 #[.val (.int p1), .val (.int p2), .val (.int (p1 % (60000 : Int32))), .val (.long (own_f_rm1 ((p1 % (60000 : Int32)).toInt64))), .second, .unset, .unset] [])) _
          refine X9.ldc2Long hx hown (mvT hZ (hw _ (List.mem_of_getElem? (i := 11) rfl))) (g := (mkF m 47 #[.val (.int p1), .val (.int p2), .val (.int (p1 % (60000 : Int32))), .val (.long (own_f_rm1 ((p1 % (60000 : Int32)).toInt64))), .second, .unset, .unset] [])) rfl (hb hby at_47) _ ?_
          show Steps p.tables e below (T9.setTop (mkF m 50 #[.val (.int p1), .val (.int p2), .val (.int (p1 % (60000 : Int32))), .val (.long (own_f_rm1 ((p1 % (60000 : Int32)).toInt64))), .second, .unset, .unset] [(.long (9223372036854775807 : Int64))])) _
          refine XS.lstore X9.here hx rfl (hb hby at_50) rfl (l' := #[.val (.int p1), .val (.int p2), .val (.int (p1 % (60000 : Int32))), .val (.long (own_f_rm1 ((p1 % (60000 : Int32)).toInt64))), .second, .val (.long (9223372036854775807 : Int64)), .second]) rfl ?_
          show Steps p.tables e below (T9.setTop (mkF m 52 #[.val (.int p1), .val (.int p2), .val (.int (p1 % (60000 : Int32))), .val (.long (own_f_rm1 ((p1 % (60000 : Int32)).toInt64))), .second, .val (.long (9223372036854775807 : Int64)), .second] [])) _
          refine XS.iloadN X9.here hx rfl (hb hby at_52) rfl ?_
          show Steps p.tables e below (T9.setTop (mkF m 53 #[.val (.int p1), .val (.int p2), .val (.int (p1 % (60000 : Int32))), .val (.long (own_f_rm1 ((p1 % (60000 : Int32)).toInt64))), .second, .val (.long (9223372036854775807 : Int64)), .second] [(.int (p1 % (60000 : Int32)))])) _
          refine st12 _ ?_
          show Steps p.tables e below (T12.setTop (mkF m 56 #[.val (.int p1), .val (.int p2), .val (.int (p1 % (60000 : Int32))), .val (.long (own_f_rm1 ((p1 % (60000 : Int32)).toInt64))), .second, .val (.long (9223372036854775807 : Int64)), .second] [(.long (own_f_rm2 (p1 % (60000 : Int32))))])) _
          refine XS.lload X12.here hx rfl (hb hby at_56) rfl ?_
          show Steps p.tables e below (T12.setTop (mkF m 58 #[.val (.int p1), .val (.int p2), .val (.int (p1 % (60000 : Int32))), .val (.long (own_f_rm1 ((p1 % (60000 : Int32)).toInt64))), .second, .val (.long (9223372036854775807 : Int64)), .second] [(.long (9223372036854775807 : Int64)), (.long (own_f_rm2 (p1 % (60000 : Int32))))])) _
          refine XS.lcmp X12.here hx rfl (hb hby at_58) rfl ?_
          show Steps p.tables e below (T12.setTop (mkF m 59 #[.val (.int p1), .val (.int p2), .val (.int (p1 % (60000 : Int32))), .val (.long (own_f_rm1 ((p1 % (60000 : Int32)).toInt64))), .second, .val (.long (9223372036854775807 : Int64)), .second] [(.int (lcmpW (own_f_rm2 (p1 % (60000 : Int32))) (9223372036854775807 : Int64)))])) _
          refine XS.ifNo X12.here hx rfl (hb hby at_59) rfl ((if0 _ _).trans (teq (own_fin1 hc16_8 hc32_11)).2) ?_
          show Steps p.tables e below (T12.setTop (mkF m 62 #[.val (.int p1), .val (.int p2), .val (.int (p1 % (60000 : Int32))), .val (.long (own_f_rm1 ((p1 % (60000 : Int32)).toInt64))), .second, .val (.long (9223372036854775807 : Int64)), .second] [])) _
          refine XS.iconst X12.here hx rfl (hb hby at_62) ?_
          show Steps p.tables e below (T12.setTop (mkF m 63 #[.val (.int p1), .val (.int p2), .val (.int (p1 % (60000 : Int32))), .val (.long (own_f_rm1 ((p1 % (60000 : Int32)).toInt64))), .second, .val (.long (9223372036854775807 : Int64)), .second] [(.int (1 : Int32))])) _
          refine XS.goto X12.here hx rfl (pc0 := 63) (pc' := 67) rfl (hb hby at_63) (by decide) (by decide) ?_
          show Steps p.tables e below (T12.setTop (mkF m 67 #[.val (.int p1), .val (.int p2), .val (.int (p1 % (60000 : Int32))), .val (.long (own_f_rm1 ((p1 % (60000 : Int32)).toInt64))), .second, .val (.long (9223372036854775807 : Int64)), .second] [(.int (1 : Int32))])) _
          exact retN X12 hx (t := .boolean) Bd.returns (by simp) (hb hby at_67) hr
        · show PQ (some (.int (1 : Int32))) h0 n0 _ T12.heap _
          rw [e12]
          exact ⟨rfl, N12, rfl⟩
      · obtain ⟨_, _, ⟨T13, L13, k13, n13⟩, -, X13, ⟨Lc13, hQ13, l13, y13, z13⟩, st13⟩ := Jvm.LawKit.callS X9 hx (y := (⟨"com/example/ringleader/ringleader/election/RefereeElection", "rankBound", "(I)J"⟩ : MethodName)) hown (mvT hZ (hw _ (List.mem_of_getElem? (i := 5) rfl))) (mvT hZ (hw _ (List.mem_of_getElem? (i := 6) rfl))) (mvT hZ (hw _ (List.mem_of_getElem? (i := 7) rfl))) (mvT hZ (hw _ (List.mem_of_getElem? (i := 8) rfl))) (by decide) (backOf (W := 0) (rm2 l Z a0 hw [] h0 n0 (p1 % (60000 : Int32)) hc16_8) hZ (hw _ (List.mem_of_getElem? (i := 8) rfl)) (hw _ (List.mem_of_getElem? (i := 7) rfl)) (by decide) (by decide)) (g := (mkF m 53 #[.val (.int p1), .val (.int p2), .val (.int (p1 % (60000 : Int32))), .val (.long (own_f_rm1 ((p1 % (60000 : Int32)).toInt64))), .second, .val (.long ((((own_f_rm1 ((p1 % (60000 : Int32)).toInt64)) * (own_f_rm1 ((p1 % (60000 : Int32)).toInt64))) * (own_f_rm1 ((p1 % (60000 : Int32)).toInt64))) * (own_f_rm1 ((p1 % (60000 : Int32)).toInt64)))), .second] [(.int (p1 % (60000 : Int32)))])) rfl (by rw [hml]; rfl) (argsL := [(.int (p1 % (60000 : Int32)))]) (rest := []) (lenOf own_pd1 rfl) rfl (by show 2 * 0 + _ ≤ _; exact Nat.le_of_eq rfl) (hb hby at_53) (fun _ _ => ⟨rfl, e9, (by decide : 0 + 0 ≤ _), (by decide : 0 + 0 ≤ _)⟩)
        dsimp only [Pt.U, Pt.locs, Pt.cells, Pt.slots] at X13 l13 y13 z13 st13 hQ13
        subst l13 y13 z13
        obtain ⟨rfl, N13q, e13⟩ := hQ13
        have N13 := Fr.app N9 N13q
        obtain ⟨fs, hr, hrun, hended, hW, hsame⟩ := X13.leave (v := some (.int (1 : Int32))) (fun h => by rw [Bd.returns] at h; cases h)
        refine ⟨_, _, pre10 _ ?_, hrun, hended, _, _, rfl, ?_, ⟨_, rfl⟩, hW, hsame.mono (by decide) (by decide)⟩
        · show Steps p.tables e below (T9.setTop (mkF m 32 #[.val (.int p1), .val (.int p2), .val (.int (p1 % (60000 : Int32))), .val (.long (own_f_rm1 ((p1 % (60000 : Int32)).toInt64))), .second, .unset, .unset] [(.int (lcmpW (own_f_rm1 ((p1 % (60000 : Int32)).toInt64)) (55108 : Int64)))])) _
          refine XS.ifNo X9.here hx rfl (hb hby at_32) rfl ((if0 _ _).trans (flt hc32_11).2.2.1) ?_
          show Steps p.tables e below (T9.setTop (mkF m 35 #[.val (.int p1), .val (.int p2), .val (.int (p1 % (60000 : Int32))), .val (.long (own_f_rm1 ((p1 % (60000 : Int32)).toInt64))), .second, .unset, .unset] [])) _
          refine XS.lloadN X9.here hx rfl (hb hby at_35) rfl ?_
          show Steps p.tables e below (T9.setTop (mkF m 36 #[.val (.int p1), .val (.int p2), .val (.int (p1 % (60000 : Int32))), .val (.long (own_f_rm1 ((p1 % (60000 : Int32)).toInt64))), .second, .unset, .unset] [(.long (own_f_rm1 ((p1 % (60000 : Int32)).toInt64)))])) _
          refine XS.lloadN X9.here hx rfl (hb hby at_36) rfl ?_
          show Steps p.tables e below (T9.setTop (mkF m 37 #[.val (.int p1), .val (.int p2), .val (.int (p1 % (60000 : Int32))), .val (.long (own_f_rm1 ((p1 % (60000 : Int32)).toInt64))), .second, .unset, .unset] [(.long (own_f_rm1 ((p1 % (60000 : Int32)).toInt64))), (.long (own_f_rm1 ((p1 % (60000 : Int32)).toInt64)))])) _
          refine XS.lmul X9.here hx rfl (hb hby at_37) rfl ?_
          show Steps p.tables e below (T9.setTop (mkF m 38 #[.val (.int p1), .val (.int p2), .val (.int (p1 % (60000 : Int32))), .val (.long (own_f_rm1 ((p1 % (60000 : Int32)).toInt64))), .second, .unset, .unset] [(.long ((own_f_rm1 ((p1 % (60000 : Int32)).toInt64)) * (own_f_rm1 ((p1 % (60000 : Int32)).toInt64))))])) _
          refine XS.lloadN X9.here hx rfl (hb hby at_38) rfl ?_
          show Steps p.tables e below (T9.setTop (mkF m 39 #[.val (.int p1), .val (.int p2), .val (.int (p1 % (60000 : Int32))), .val (.long (own_f_rm1 ((p1 % (60000 : Int32)).toInt64))), .second, .unset, .unset] [(.long (own_f_rm1 ((p1 % (60000 : Int32)).toInt64))), (.long ((own_f_rm1 ((p1 % (60000 : Int32)).toInt64)) * (own_f_rm1 ((p1 % (60000 : Int32)).toInt64))))])) _
          refine XS.lmul X9.here hx rfl (hb hby at_39) rfl ?_
          show Steps p.tables e below (T9.setTop (mkF m 40 #[.val (.int p1), .val (.int p2), .val (.int (p1 % (60000 : Int32))), .val (.long (own_f_rm1 ((p1 % (60000 : Int32)).toInt64))), .second, .unset, .unset] [(.long (((own_f_rm1 ((p1 % (60000 : Int32)).toInt64)) * (own_f_rm1 ((p1 % (60000 : Int32)).toInt64))) * (own_f_rm1 ((p1 % (60000 : Int32)).toInt64))))])) _
          refine XS.lloadN X9.here hx rfl (hb hby at_40) rfl ?_
          show Steps p.tables e below (T9.setTop (mkF m 41 #[.val (.int p1), .val (.int p2), .val (.int (p1 % (60000 : Int32))), .val (.long (own_f_rm1 ((p1 % (60000 : Int32)).toInt64))), .second, .unset, .unset] [(.long (own_f_rm1 ((p1 % (60000 : Int32)).toInt64))), (.long (((own_f_rm1 ((p1 % (60000 : Int32)).toInt64)) * (own_f_rm1 ((p1 % (60000 : Int32)).toInt64))) * (own_f_rm1 ((p1 % (60000 : Int32)).toInt64))))])) _
          refine XS.lmul X9.here hx rfl (hb hby at_41) rfl ?_
          show Steps p.tables e below (T9.setTop (mkF m 42 #[.val (.int p1), .val (.int p2), .val (.int (p1 % (60000 : Int32))), .val (.long (own_f_rm1 ((p1 % (60000 : Int32)).toInt64))), .second, .unset, .unset] [(.long ((((own_f_rm1 ((p1 % (60000 : Int32)).toInt64)) * (own_f_rm1 ((p1 % (60000 : Int32)).toInt64))) * (own_f_rm1 ((p1 % (60000 : Int32)).toInt64))) * (own_f_rm1 ((p1 % (60000 : Int32)).toInt64))))])) _
          refine XS.lstore X9.here hx rfl (hb hby at_42) rfl (l' := #[.val (.int p1), .val (.int p2), .val (.int (p1 % (60000 : Int32))), .val (.long (own_f_rm1 ((p1 % (60000 : Int32)).toInt64))), .second, .val (.long ((((own_f_rm1 ((p1 % (60000 : Int32)).toInt64)) * (own_f_rm1 ((p1 % (60000 : Int32)).toInt64))) * (own_f_rm1 ((p1 % (60000 : Int32)).toInt64))) * (own_f_rm1 ((p1 % (60000 : Int32)).toInt64)))), .second]) rfl ?_
          show Steps p.tables e below (T9.setTop (mkF m 44 #[.val (.int p1), .val (.int p2), .val (.int (p1 % (60000 : Int32))), .val (.long (own_f_rm1 ((p1 % (60000 : Int32)).toInt64))), .second, .val (.long ((((own_f_rm1 ((p1 % (60000 : Int32)).toInt64)) * (own_f_rm1 ((p1 % (60000 : Int32)).toInt64))) * (own_f_rm1 ((p1 % (60000 : Int32)).toInt64))) * (own_f_rm1 ((p1 % (60000 : Int32)).toInt64)))), .second] [])) _
          refine XS.goto X9.here hx rfl (pc0 := 44) (pc' := 52) rfl (hb hby at_44) (by decide) (by decide) ?_
          show Steps p.tables e below (T9.setTop (mkF m 52 #[.val (.int p1), .val (.int p2), .val (.int (p1 % (60000 : Int32))), .val (.long (own_f_rm1 ((p1 % (60000 : Int32)).toInt64))), .second, .val (.long ((((own_f_rm1 ((p1 % (60000 : Int32)).toInt64)) * (own_f_rm1 ((p1 % (60000 : Int32)).toInt64))) * (own_f_rm1 ((p1 % (60000 : Int32)).toInt64))) * (own_f_rm1 ((p1 % (60000 : Int32)).toInt64)))), .second] [])) _
          refine XS.iloadN X9.here hx rfl (hb hby at_52) rfl ?_
          show Steps p.tables e below (T9.setTop (mkF m 53 #[.val (.int p1), .val (.int p2), .val (.int (p1 % (60000 : Int32))), .val (.long (own_f_rm1 ((p1 % (60000 : Int32)).toInt64))), .second, .val (.long ((((own_f_rm1 ((p1 % (60000 : Int32)).toInt64)) * (own_f_rm1 ((p1 % (60000 : Int32)).toInt64))) * (own_f_rm1 ((p1 % (60000 : Int32)).toInt64))) * (own_f_rm1 ((p1 % (60000 : Int32)).toInt64)))), .second] [(.int (p1 % (60000 : Int32)))])) _
          refine st13 _ ?_
          show Steps p.tables e below (T13.setTop (mkF m 56 #[.val (.int p1), .val (.int p2), .val (.int (p1 % (60000 : Int32))), .val (.long (own_f_rm1 ((p1 % (60000 : Int32)).toInt64))), .second, .val (.long ((((own_f_rm1 ((p1 % (60000 : Int32)).toInt64)) * (own_f_rm1 ((p1 % (60000 : Int32)).toInt64))) * (own_f_rm1 ((p1 % (60000 : Int32)).toInt64))) * (own_f_rm1 ((p1 % (60000 : Int32)).toInt64)))), .second] [(.long (own_f_rm2 (p1 % (60000 : Int32))))])) _
          refine XS.lload X13.here hx rfl (hb hby at_56) rfl ?_
          show Steps p.tables e below (T13.setTop (mkF m 58 #[.val (.int p1), .val (.int p2), .val (.int (p1 % (60000 : Int32))), .val (.long (own_f_rm1 ((p1 % (60000 : Int32)).toInt64))), .second, .val (.long ((((own_f_rm1 ((p1 % (60000 : Int32)).toInt64)) * (own_f_rm1 ((p1 % (60000 : Int32)).toInt64))) * (own_f_rm1 ((p1 % (60000 : Int32)).toInt64))) * (own_f_rm1 ((p1 % (60000 : Int32)).toInt64)))), .second] [(.long ((((own_f_rm1 ((p1 % (60000 : Int32)).toInt64)) * (own_f_rm1 ((p1 % (60000 : Int32)).toInt64))) * (own_f_rm1 ((p1 % (60000 : Int32)).toInt64))) * (own_f_rm1 ((p1 % (60000 : Int32)).toInt64)))), (.long (own_f_rm2 (p1 % (60000 : Int32))))])) _
          refine XS.lcmp X13.here hx rfl (hb hby at_58) rfl ?_
          show Steps p.tables e below (T13.setTop (mkF m 59 #[.val (.int p1), .val (.int p2), .val (.int (p1 % (60000 : Int32))), .val (.long (own_f_rm1 ((p1 % (60000 : Int32)).toInt64))), .second, .val (.long ((((own_f_rm1 ((p1 % (60000 : Int32)).toInt64)) * (own_f_rm1 ((p1 % (60000 : Int32)).toInt64))) * (own_f_rm1 ((p1 % (60000 : Int32)).toInt64))) * (own_f_rm1 ((p1 % (60000 : Int32)).toInt64)))), .second] [(.int (lcmpW (own_f_rm2 (p1 % (60000 : Int32))) ((((own_f_rm1 ((p1 % (60000 : Int32)).toInt64)) * (own_f_rm1 ((p1 % (60000 : Int32)).toInt64))) * (own_f_rm1 ((p1 % (60000 : Int32)).toInt64))) * (own_f_rm1 ((p1 % (60000 : Int32)).toInt64)))))])) _
          refine XS.ifNo X13.here hx rfl (hb hby at_59) rfl ((if0 _ _).trans (teq (own_fin0 hc16_8 hc32_11)).2) ?_
          show Steps p.tables e below (T13.setTop (mkF m 62 #[.val (.int p1), .val (.int p2), .val (.int (p1 % (60000 : Int32))), .val (.long (own_f_rm1 ((p1 % (60000 : Int32)).toInt64))), .second, .val (.long ((((own_f_rm1 ((p1 % (60000 : Int32)).toInt64)) * (own_f_rm1 ((p1 % (60000 : Int32)).toInt64))) * (own_f_rm1 ((p1 % (60000 : Int32)).toInt64))) * (own_f_rm1 ((p1 % (60000 : Int32)).toInt64)))), .second] [])) _
          refine XS.iconst X13.here hx rfl (hb hby at_62) ?_
          show Steps p.tables e below (T13.setTop (mkF m 63 #[.val (.int p1), .val (.int p2), .val (.int (p1 % (60000 : Int32))), .val (.long (own_f_rm1 ((p1 % (60000 : Int32)).toInt64))), .second, .val (.long ((((own_f_rm1 ((p1 % (60000 : Int32)).toInt64)) * (own_f_rm1 ((p1 % (60000 : Int32)).toInt64))) * (own_f_rm1 ((p1 % (60000 : Int32)).toInt64))) * (own_f_rm1 ((p1 % (60000 : Int32)).toInt64)))), .second] [(.int (1 : Int32))])) _
          refine XS.goto X13.here hx rfl (pc0 := 63) (pc' := 67) rfl (hb hby at_63) (by decide) (by decide) ?_
          show Steps p.tables e below (T13.setTop (mkF m 67 #[.val (.int p1), .val (.int p2), .val (.int (p1 % (60000 : Int32))), .val (.long (own_f_rm1 ((p1 % (60000 : Int32)).toInt64))), .second, .val (.long ((((own_f_rm1 ((p1 % (60000 : Int32)).toInt64)) * (own_f_rm1 ((p1 % (60000 : Int32)).toInt64))) * (own_f_rm1 ((p1 % (60000 : Int32)).toInt64))) * (own_f_rm1 ((p1 % (60000 : Int32)).toInt64)))), .second] [(.int (1 : Int32))])) _
          exact retN X13 hx (t := .boolean) Bd.returns (by simp) (hb hby at_67) hr
        · show PQ (some (.int (1 : Int32))) h0 n0 _ T13.heap _
          rw [e13]
          exact ⟨rfl, N13, rfl⟩
  · have pre14 : ∀ t, Steps p.tables e below (s₁.setTop (mkF m 16 #[.val (.int p1), .val (.int p2), .val (.int p1), .unset, .unset, .unset, .unset] [(.int p1)])) t → Steps p.tables e below (s₁.setTop (entryFrame m #[(.int p1), (.int p2)] maxLocals)) t := fun t k => pre5 t (by
      show Steps p.tables e below (s₁.setTop (mkF m 3 #[.val (.int p1), .val (.int p2), .unset, .unset, .unset, .unset, .unset] [(.int (p2 &&& (1 : Int32)))])) _
      refine XS.ifNo X0.here hx rfl (hb hby at_3) rfl ((if0 _ _).trans (feq hc3_6).1) ?_
      show Steps p.tables e below (s₁.setTop (mkF m 6 #[.val (.int p1), .val (.int p2), .unset, .unset, .unset, .unset, .unset] [])) _
      refine XS.iloadN X0.here hx rfl (hb hby at_6) rfl ?_
      show Steps p.tables e below (s₁.setTop (mkF m 7 #[.val (.int p1), .val (.int p2), .unset, .unset, .unset, .unset, .unset] [(.int p1)])) _
      refine XS.goto X0.here hx rfl (pc0 := 7) (pc' := 14) rfl (hb hby at_7) (by decide) (by decide) ?_
      show Steps p.tables e below (s₁.setTop (mkF m 14 #[.val (.int p1), .val (.int p2), .unset, .unset, .unset, .unset, .unset] [(.int p1)])) _
      refine XS.istoreN X0.here hx rfl (hb hby at_14) rfl (l' := #[.val (.int p1), .val (.int p2), .val (.int p1), .unset, .unset, .unset, .unset]) rfl ?_
      show Steps p.tables e below (s₁.setTop (mkF m 15 #[.val (.int p1), .val (.int p2), .val (.int p1), .unset, .unset, .unset, .unset] [])) _
      refine XS.iloadN X0.here hx rfl (hb hby at_15) rfl ?_
      exact k)
    by_cases hc16_15 : p1 = (0 : Int32)
    · obtain ⟨fs, hr, hrun, hended, hW, hsame⟩ := X0.leave (v := some (.int (1 : Int32))) (fun h => by rw [Bd.returns] at h; cases h)
      refine ⟨_, _, pre14 _ ?_, hrun, hended, _, _, rfl, ?_, ⟨_, rfl⟩, hW, hsame.mono (by decide) (by decide)⟩
      · show Steps p.tables e below (s₁.setTop (mkF m 16 #[.val (.int p1), .val (.int p2), .val (.int p1), .unset, .unset, .unset, .unset] [(.int p1)])) _
        refine XS.ifNo X0.here hx rfl (hb hby at_16) rfl ((if0 _ _).trans (teq hc16_15).2) ?_
        show Steps p.tables e below (s₁.setTop (mkF m 19 #[.val (.int p1), .val (.int p2), .val (.int p1), .unset, .unset, .unset, .unset] [])) _
        refine XS.iconst X0.here hx rfl (hb hby at_19) ?_
        show Steps p.tables e below (s₁.setTop (mkF m 20 #[.val (.int p1), .val (.int p2), .val (.int p1), .unset, .unset, .unset, .unset] [(.int (1 : Int32))])) _
        exact retN X0 hx (t := .boolean) Bd.returns (by simp) (hb hby at_20) hr
      · show PQ (some (.int (1 : Int32))) h0 n0 _ s₁.heap _
        rw [e0]
        exact ⟨rfl, N0, rfl⟩
    · obtain ⟨_, _, ⟨T16, L16, k16, n16⟩, -, X16, ⟨Lc16, hQ16, l16, y16, z16⟩, st16⟩ := Jvm.LawKit.callS X0 hx (y := (⟨"java/lang/Math", "abs", "(J)J"⟩ : MethodName)) hown (mvT hZ (hw _ (List.mem_of_getElem? (i := 0) rfl))) (mvT hZ (hw _ (List.mem_of_getElem? (i := 1) rfl))) (mvT hZ (hw _ (List.mem_of_getElem? (i := 2) rfl))) (mvT hZ (hw _ (List.mem_of_getElem? (i := 3) rfl))) (by decide) (backOf (W := 0) (rm1 l Z a0 hw [] h0 n0 (p1.toInt64)) hZ (hw _ (List.mem_of_getElem? (i := 3) rfl)) (hw _ (List.mem_of_getElem? (i := 2) rfl)) (by decide) (by decide)) (g := (mkF m 23 #[.val (.int p1), .val (.int p2), .val (.int p1), .unset, .unset, .unset, .unset] [(.long (p1.toInt64))])) rfl (by rw [hml]; rfl) (argsL := [(.long (p1.toInt64))]) (rest := []) (lenOf own_pd0 rfl) rfl (by show 2 * 0 + _ ≤ _; exact Nat.le_of_eq rfl) (hb hby at_23) (fun _ _ => ⟨rfl, e0, (by decide : 0 + 0 ≤ _), (by decide : 0 + 0 ≤ _)⟩)
      dsimp only [Pt.U, Pt.locs, Pt.cells, Pt.slots] at X16 l16 y16 z16 st16 hQ16
      subst l16 y16 z16
      obtain ⟨rfl, N16q, e16⟩ := hQ16
      have N16 := Fr.app N0 N16q
      have pre17 : ∀ t, Steps p.tables e below (T16.setTop (mkF m 32 #[.val (.int p1), .val (.int p2), .val (.int p1), .val (.long (own_f_rm1 (p1.toInt64))), .second, .unset, .unset] [(.int (lcmpW (own_f_rm1 (p1.toInt64)) (55108 : Int64)))])) t → Steps p.tables e below (s₁.setTop (entryFrame m #[(.int p1), (.int p2)] maxLocals)) t := fun t k => pre14 t (by
        show Steps p.tables e below (s₁.setTop (mkF m 16 #[.val (.int p1), .val (.int p2), .val (.int p1), .unset, .unset, .unset, .unset] [(.int p1)])) _
        refine XS.ifYes X0.here hx rfl (pc0 := 16) (pc' := 21) rfl (hb hby at_16) rfl ((if0 _ _).trans (feq hc16_15).2) (by decide) (by decide) ?_
        show Steps p.tables e below (s₁.setTop (mkF m 21 #[.val (.int p1), .val (.int p2), .val (.int p1), .unset, .unset, .unset, .unset] [])) _
        refine XS.iloadN X0.here hx rfl (hb hby at_21) rfl ?_
        show Steps p.tables e below (s₁.setTop (mkF m 22 #[.val (.int p1), .val (.int p2), .val (.int p1), .unset, .unset, .unset, .unset] [(.int p1)])) _
        refine XS.i2l X0.here hx rfl (hb hby at_22) rfl ?_
        show Steps p.tables e below (s₁.setTop (mkF m 23 #[.val (.int p1), .val (.int p2), .val (.int p1), .unset, .unset, .unset, .unset] [(.long (p1.toInt64))])) _
        refine st16 _ ?_
        show Steps p.tables e below (T16.setTop (mkF m 26 #[.val (.int p1), .val (.int p2), .val (.int p1), .unset, .unset, .unset, .unset] [(.long (own_f_rm1 (p1.toInt64)))])) _
        refine XS.lstoreN X16.here hx rfl (hb hby at_26) rfl (l' := #[.val (.int p1), .val (.int p2), .val (.int p1), .val (.long (own_f_rm1 (p1.toInt64))), .second, .unset, .unset]) rfl ?_
        show Steps p.tables e below (T16.setTop (mkF m 27 #[.val (.int p1), .val (.int p2), .val (.int p1), .val (.long (own_f_rm1 (p1.toInt64))), .second, .unset, .unset] [])) _
        refine XS.lloadN X16.here hx rfl (hb hby at_27) rfl ?_
        show Steps p.tables e below (T16.setTop (mkF m 28 #[.val (.int p1), .val (.int p2), .val (.int p1), .val (.long (own_f_rm1 (p1.toInt64))), .second, .unset, .unset] [(.long (own_f_rm1 (p1.toInt64)))])) _
        refine X16.ldc2Long hx hown (mvT hZ (hw _ (List.mem_of_getElem? (i := 4) rfl))) (g := (mkF m 28 #[.val (.int p1), .val (.int p2), .val (.int p1), .val (.long (own_f_rm1 (p1.toInt64))), .second, .unset, .unset] [(.long (own_f_rm1 (p1.toInt64)))])) rfl (hb hby at_28) _ ?_
        show Steps p.tables e below (T16.setTop (mkF m 31 #[.val (.int p1), .val (.int p2), .val (.int p1), .val (.long (own_f_rm1 (p1.toInt64))), .second, .unset, .unset] [(.long (55108 : Int64)), (.long (own_f_rm1 (p1.toInt64)))])) _
        refine XS.lcmp X16.here hx rfl (hb hby at_31) rfl ?_
        exact k)
      by_cases hc32_18 : (0 : Int32) < (lcmpW (own_f_rm1 (p1.toInt64)) (55108 : Int64))
      · obtain ⟨_, _, ⟨T19, L19, k19, n19⟩, -, X19, ⟨Lc19, hQ19, l19, y19, z19⟩, st19⟩ := Jvm.LawKit.callS X16 hx (y := (⟨"com/example/ringleader/ringleader/election/RefereeElection", "rankBound", "(I)J"⟩ : MethodName)) hown (mvT hZ (hw _ (List.mem_of_getElem? (i := 5) rfl))) (mvT hZ (hw _ (List.mem_of_getElem? (i := 6) rfl))) (mvT hZ (hw _ (List.mem_of_getElem? (i := 7) rfl))) (mvT hZ (hw _ (List.mem_of_getElem? (i := 8) rfl))) (by decide) (backOf (W := 0) (rm2 l Z a0 hw [] h0 n0 p1 hc16_15) hZ (hw _ (List.mem_of_getElem? (i := 8) rfl)) (hw _ (List.mem_of_getElem? (i := 7) rfl)) (by decide) (by decide)) (g := (mkF m 53 #[.val (.int p1), .val (.int p2), .val (.int p1), .val (.long (own_f_rm1 (p1.toInt64))), .second, .val (.long (9223372036854775807 : Int64)), .second] [(.int p1)])) rfl (by rw [hml]; rfl) (argsL := [(.int p1)]) (rest := []) (lenOf own_pd1 rfl) rfl (by show 2 * 0 + _ ≤ _; exact Nat.le_of_eq rfl) (hb hby at_53) (fun _ _ => ⟨rfl, e16, (by decide : 0 + 0 ≤ _), (by decide : 0 + 0 ≤ _)⟩)
        dsimp only [Pt.U, Pt.locs, Pt.cells, Pt.slots] at X19 l19 y19 z19 st19 hQ19
        subst l19 y19 z19
        obtain ⟨rfl, N19q, e19⟩ := hQ19
        have N19 := Fr.app N16 N19q
        obtain ⟨fs, hr, hrun, hended, hW, hsame⟩ := X19.leave (v := some (.int (1 : Int32))) (fun h => by rw [Bd.returns] at h; cases h)
        refine ⟨_, _, pre17 _ ?_, hrun, hended, _, _, rfl, ?_, ⟨_, rfl⟩, hW, hsame.mono (by decide) (by decide)⟩
        · show Steps p.tables e below (T16.setTop (mkF m 32 #[.val (.int p1), .val (.int p2), .val (.int p1), .val (.long (own_f_rm1 (p1.toInt64))), .second, .unset, .unset] [(.int (lcmpW (own_f_rm1 (p1.toInt64)) (55108 : Int64)))])) _
          refine XS.ifYes X16.here hx rfl (pc0 := 32) (pc' := 47) rfl (hb hby at_32) rfl ((if0 _ _).trans (tlt hc32_18).2.2.1) (by decide) (by decide) ?_
          show Steps p.tables e below (T16.setTop (mkF m 47 #[.val (.int p1), .val (.int p2), .val (.int p1), .val (.long (own_f_rm1 (p1.toInt64))), .second, .unset, .unset] [])) _
          refine X16.ldc2Long hx hown (mvT hZ (hw _ (List.mem_of_getElem? (i := 11) rfl))) (g := (mkF m 47 #[.val (.int p1), .val (.int p2), .val (.int p1), .val (.long (own_f_rm1 (p1.toInt64))), .second, .unset, .unset] [])) rfl (hb hby at_47) _ ?_
          show Steps p.tables e below (T16.setTop (mkF m 50 #[.val (.int p1), .val (.int p2), .val (.int p1), .val (.long (own_f_rm1 (p1.toInt64))), .second, .unset, .unset] [(.long (9223372036854775807 : Int64))])) _
          refine XS.lstore X16.here hx rfl (hb hby at_50) rfl (l' := #[.val (.int p1), .val (.int p2), .val (.int p1), .val (.long (own_f_rm1 (p1.toInt64))), .second, .val (.long (9223372036854775807 : Int64)), .second]) rfl ?_
          show Steps p.tables e below (T16.setTop (mkF m 52 #[.val (.int p1), .val (.int p2), .val (.int p1), .val (.long (own_f_rm1 (p1.toInt64))), .second, .val (.long (9223372036854775807 : Int64)), .second] [])) _
          refine XS.iloadN X16.here hx rfl (hb hby at_52) rfl ?_
          show Steps p.tables e below (T16.setTop (mkF m 53 #[.val (.int p1), .val (.int p2), .val (.int p1), .val (.long (own_f_rm1 (p1.toInt64))), .second, .val (.long (9223372036854775807 : Int64)), .second] [(.int p1)])) _
          refine st19 _ ?_
          show Steps p.tables e below (T19.setTop (mkF m 56 #[.val (.int p1), .val (.int p2), .val (.int p1), .val (.long (own_f_rm1 (p1.toInt64))), .second, .val (.long (9223372036854775807 : Int64)), .second] [(.long (own_f_rm2 p1))])) _
          refine XS.lload X19.here hx rfl (hb hby at_56) rfl ?_
          show Steps p.tables e below (T19.setTop (mkF m 58 #[.val (.int p1), .val (.int p2), .val (.int p1), .val (.long (own_f_rm1 (p1.toInt64))), .second, .val (.long (9223372036854775807 : Int64)), .second] [(.long (9223372036854775807 : Int64)), (.long (own_f_rm2 p1))])) _
          refine XS.lcmp X19.here hx rfl (hb hby at_58) rfl ?_
          show Steps p.tables e below (T19.setTop (mkF m 59 #[.val (.int p1), .val (.int p2), .val (.int p1), .val (.long (own_f_rm1 (p1.toInt64))), .second, .val (.long (9223372036854775807 : Int64)), .second] [(.int (lcmpW (own_f_rm2 p1) (9223372036854775807 : Int64)))])) _
          refine XS.ifNo X19.here hx rfl (hb hby at_59) rfl ((if0 _ _).trans (teq (own_fin1 hc16_15 hc32_18)).2) ?_
          show Steps p.tables e below (T19.setTop (mkF m 62 #[.val (.int p1), .val (.int p2), .val (.int p1), .val (.long (own_f_rm1 (p1.toInt64))), .second, .val (.long (9223372036854775807 : Int64)), .second] [])) _
          refine XS.iconst X19.here hx rfl (hb hby at_62) ?_
          show Steps p.tables e below (T19.setTop (mkF m 63 #[.val (.int p1), .val (.int p2), .val (.int p1), .val (.long (own_f_rm1 (p1.toInt64))), .second, .val (.long (9223372036854775807 : Int64)), .second] [(.int (1 : Int32))])) _
          refine XS.goto X19.here hx rfl (pc0 := 63) (pc' := 67) rfl (hb hby at_63) (by decide) (by decide) ?_
          show Steps p.tables e below (T19.setTop (mkF m 67 #[.val (.int p1), .val (.int p2), .val (.int p1), .val (.long (own_f_rm1 (p1.toInt64))), .second, .val (.long (9223372036854775807 : Int64)), .second] [(.int (1 : Int32))])) _
          exact retN X19 hx (t := .boolean) Bd.returns (by simp) (hb hby at_67) hr
        · show PQ (some (.int (1 : Int32))) h0 n0 _ T19.heap _
          rw [e19]
          exact ⟨rfl, N19, rfl⟩
      · obtain ⟨_, _, ⟨T20, L20, k20, n20⟩, -, X20, ⟨Lc20, hQ20, l20, y20, z20⟩, st20⟩ := Jvm.LawKit.callS X16 hx (y := (⟨"com/example/ringleader/ringleader/election/RefereeElection", "rankBound", "(I)J"⟩ : MethodName)) hown (mvT hZ (hw _ (List.mem_of_getElem? (i := 5) rfl))) (mvT hZ (hw _ (List.mem_of_getElem? (i := 6) rfl))) (mvT hZ (hw _ (List.mem_of_getElem? (i := 7) rfl))) (mvT hZ (hw _ (List.mem_of_getElem? (i := 8) rfl))) (by decide) (backOf (W := 0) (rm2 l Z a0 hw [] h0 n0 p1 hc16_15) hZ (hw _ (List.mem_of_getElem? (i := 8) rfl)) (hw _ (List.mem_of_getElem? (i := 7) rfl)) (by decide) (by decide)) (g := (mkF m 53 #[.val (.int p1), .val (.int p2), .val (.int p1), .val (.long (own_f_rm1 (p1.toInt64))), .second, .val (.long ((((own_f_rm1 (p1.toInt64)) * (own_f_rm1 (p1.toInt64))) * (own_f_rm1 (p1.toInt64))) * (own_f_rm1 (p1.toInt64)))), .second] [(.int p1)])) rfl (by rw [hml]; rfl) (argsL := [(.int p1)]) (rest := []) (lenOf own_pd1 rfl) rfl (by show 2 * 0 + _ ≤ _; exact Nat.le_of_eq rfl) (hb hby at_53) (fun _ _ => ⟨rfl, e16, (by decide : 0 + 0 ≤ _), (by decide : 0 + 0 ≤ _)⟩)
        dsimp only [Pt.U, Pt.locs, Pt.cells, Pt.slots] at X20 l20 y20 z20 st20 hQ20
        subst l20 y20 z20
        obtain ⟨rfl, N20q, e20⟩ := hQ20
        have N20 := Fr.app N16 N20q
        obtain ⟨fs, hr, hrun, hended, hW, hsame⟩ := X20.leave (v := some (.int (1 : Int32))) (fun h => by rw [Bd.returns] at h; cases h)
        refine ⟨_, _, pre17 _ ?_, hrun, hended, _, _, rfl, ?_, ⟨_, rfl⟩, hW, hsame.mono (by decide) (by decide)⟩
        · show Steps p.tables e below (T16.setTop (mkF m 32 #[.val (.int p1), .val (.int p2), .val (.int p1), .val (.long (own_f_rm1 (p1.toInt64))), .second, .unset, .unset] [(.int (lcmpW (own_f_rm1 (p1.toInt64)) (55108 : Int64)))])) _
          refine XS.ifNo X16.here hx rfl (hb hby at_32) rfl ((if0 _ _).trans (flt hc32_18).2.2.1) ?_
          show Steps p.tables e below (T16.setTop (mkF m 35 #[.val (.int p1), .val (.int p2), .val (.int p1), .val (.long (own_f_rm1 (p1.toInt64))), .second, .unset, .unset] [])) _
          refine XS.lloadN X16.here hx rfl (hb hby at_35) rfl ?_
          show Steps p.tables e below (T16.setTop (mkF m 36 #[.val (.int p1), .val (.int p2), .val (.int p1), .val (.long (own_f_rm1 (p1.toInt64))), .second, .unset, .unset] [(.long (own_f_rm1 (p1.toInt64)))])) _
          refine XS.lloadN X16.here hx rfl (hb hby at_36) rfl ?_
          show Steps p.tables e below (T16.setTop (mkF m 37 #[.val (.int p1), .val (.int p2), .val (.int p1), .val (.long (own_f_rm1 (p1.toInt64))), .second, .unset, .unset] [(.long (own_f_rm1 (p1.toInt64))), (.long (own_f_rm1 (p1.toInt64)))])) _
          refine XS.lmul X16.here hx rfl (hb hby at_37) rfl ?_
          show Steps p.tables e below (T16.setTop (mkF m 38 #[.val (.int p1), .val (.int p2), .val (.int p1), .val (.long (own_f_rm1 (p1.toInt64))), .second, .unset, .unset] [(.long ((own_f_rm1 (p1.toInt64)) * (own_f_rm1 (p1.toInt64))))])) _
          refine XS.lloadN X16.here hx rfl (hb hby at_38) rfl ?_
          show Steps p.tables e below (T16.setTop (mkF m 39 #[.val (.int p1), .val (.int p2), .val (.int p1), .val (.long (own_f_rm1 (p1.toInt64))), .second, .unset, .unset] [(.long (own_f_rm1 (p1.toInt64))), (.long ((own_f_rm1 (p1.toInt64)) * (own_f_rm1 (p1.toInt64))))])) _
          refine XS.lmul X16.here hx rfl (hb hby at_39) rfl ?_
          show Steps p.tables e below (T16.setTop (mkF m 40 #[.val (.int p1), .val (.int p2), .val (.int p1), .val (.long (own_f_rm1 (p1.toInt64))), .second, .unset, .unset] [(.long (((own_f_rm1 (p1.toInt64)) * (own_f_rm1 (p1.toInt64))) * (own_f_rm1 (p1.toInt64))))])) _
          refine XS.lloadN X16.here hx rfl (hb hby at_40) rfl ?_
          show Steps p.tables e below (T16.setTop (mkF m 41 #[.val (.int p1), .val (.int p2), .val (.int p1), .val (.long (own_f_rm1 (p1.toInt64))), .second, .unset, .unset] [(.long (own_f_rm1 (p1.toInt64))), (.long (((own_f_rm1 (p1.toInt64)) * (own_f_rm1 (p1.toInt64))) * (own_f_rm1 (p1.toInt64))))])) _
          refine XS.lmul X16.here hx rfl (hb hby at_41) rfl ?_
          show Steps p.tables e below (T16.setTop (mkF m 42 #[.val (.int p1), .val (.int p2), .val (.int p1), .val (.long (own_f_rm1 (p1.toInt64))), .second, .unset, .unset] [(.long ((((own_f_rm1 (p1.toInt64)) * (own_f_rm1 (p1.toInt64))) * (own_f_rm1 (p1.toInt64))) * (own_f_rm1 (p1.toInt64))))])) _
          refine XS.lstore X16.here hx rfl (hb hby at_42) rfl (l' := #[.val (.int p1), .val (.int p2), .val (.int p1), .val (.long (own_f_rm1 (p1.toInt64))), .second, .val (.long ((((own_f_rm1 (p1.toInt64)) * (own_f_rm1 (p1.toInt64))) * (own_f_rm1 (p1.toInt64))) * (own_f_rm1 (p1.toInt64)))), .second]) rfl ?_
          show Steps p.tables e below (T16.setTop (mkF m 44 #[.val (.int p1), .val (.int p2), .val (.int p1), .val (.long (own_f_rm1 (p1.toInt64))), .second, .val (.long ((((own_f_rm1 (p1.toInt64)) * (own_f_rm1 (p1.toInt64))) * (own_f_rm1 (p1.toInt64))) * (own_f_rm1 (p1.toInt64)))), .second] [])) _
          refine XS.goto X16.here hx rfl (pc0 := 44) (pc' := 52) rfl (hb hby at_44) (by decide) (by decide) ?_
          show Steps p.tables e below (T16.setTop (mkF m 52 #[.val (.int p1), .val (.int p2), .val (.int p1), .val (.long (own_f_rm1 (p1.toInt64))), .second, .val (.long ((((own_f_rm1 (p1.toInt64)) * (own_f_rm1 (p1.toInt64))) * (own_f_rm1 (p1.toInt64))) * (own_f_rm1 (p1.toInt64)))), .second] [])) _
          refine XS.iloadN X16.here hx rfl (hb hby at_52) rfl ?_
          show Steps p.tables e below (T16.setTop (mkF m 53 #[.val (.int p1), .val (.int p2), .val (.int p1), .val (.long (own_f_rm1 (p1.toInt64))), .second, .val (.long ((((own_f_rm1 (p1.toInt64)) * (own_f_rm1 (p1.toInt64))) * (own_f_rm1 (p1.toInt64))) * (own_f_rm1 (p1.toInt64)))), .second] [(.int p1)])) _
          refine st20 _ ?_
          show Steps p.tables e below (T20.setTop (mkF m 56 #[.val (.int p1), .val (.int p2), .val (.int p1), .val (.long (own_f_rm1 (p1.toInt64))), .second, .val (.long ((((own_f_rm1 (p1.toInt64)) * (own_f_rm1 (p1.toInt64))) * (own_f_rm1 (p1.toInt64))) * (own_f_rm1 (p1.toInt64)))), .second] [(.long (own_f_rm2 p1))])) _
          refine XS.lload X20.here hx rfl (hb hby at_56) rfl ?_
          show Steps p.tables e below (T20.setTop (mkF m 58 #[.val (.int p1), .val (.int p2), .val (.int p1), .val (.long (own_f_rm1 (p1.toInt64))), .second, .val (.long ((((own_f_rm1 (p1.toInt64)) * (own_f_rm1 (p1.toInt64))) * (own_f_rm1 (p1.toInt64))) * (own_f_rm1 (p1.toInt64)))), .second] [(.long ((((own_f_rm1 (p1.toInt64)) * (own_f_rm1 (p1.toInt64))) * (own_f_rm1 (p1.toInt64))) * (own_f_rm1 (p1.toInt64)))), (.long (own_f_rm2 p1))])) _
          refine XS.lcmp X20.here hx rfl (hb hby at_58) rfl ?_
          show Steps p.tables e below (T20.setTop (mkF m 59 #[.val (.int p1), .val (.int p2), .val (.int p1), .val (.long (own_f_rm1 (p1.toInt64))), .second, .val (.long ((((own_f_rm1 (p1.toInt64)) * (own_f_rm1 (p1.toInt64))) * (own_f_rm1 (p1.toInt64))) * (own_f_rm1 (p1.toInt64)))), .second] [(.int (lcmpW (own_f_rm2 p1) ((((own_f_rm1 (p1.toInt64)) * (own_f_rm1 (p1.toInt64))) * (own_f_rm1 (p1.toInt64))) * (own_f_rm1 (p1.toInt64)))))])) _
          refine XS.ifNo X20.here hx rfl (hb hby at_59) rfl ((if0 _ _).trans (teq (own_fin0 hc16_15 hc32_18)).2) ?_
          show Steps p.tables e below (T20.setTop (mkF m 62 #[.val (.int p1), .val (.int p2), .val (.int p1), .val (.long (own_f_rm1 (p1.toInt64))), .second, .val (.long ((((own_f_rm1 (p1.toInt64)) * (own_f_rm1 (p1.toInt64))) * (own_f_rm1 (p1.toInt64))) * (own_f_rm1 (p1.toInt64)))), .second] [])) _
          refine XS.iconst X20.here hx rfl (hb hby at_62) ?_
          show Steps p.tables e below (T20.setTop (mkF m 63 #[.val (.int p1), .val (.int p2), .val (.int p1), .val (.long (own_f_rm1 (p1.toInt64))), .second, .val (.long ((((own_f_rm1 (p1.toInt64)) * (own_f_rm1 (p1.toInt64))) * (own_f_rm1 (p1.toInt64))) * (own_f_rm1 (p1.toInt64)))), .second] [(.int (1 : Int32))])) _
          refine XS.goto X20.here hx rfl (pc0 := 63) (pc' := 67) rfl (hb hby at_63) (by decide) (by decide) ?_
          show Steps p.tables e below (T20.setTop (mkF m 67 #[.val (.int p1), .val (.int p2), .val (.int p1), .val (.long (own_f_rm1 (p1.toInt64))), .second, .val (.long ((((own_f_rm1 (p1.toInt64)) * (own_f_rm1 (p1.toInt64))) * (own_f_rm1 (p1.toInt64))) * (own_f_rm1 (p1.toInt64)))), .second] [(.int (1 : Int32))])) _
          exact retN X20 hx (t := .boolean) Bd.returns (by simp) (hb hby at_67) hr
        · show PQ (some (.int (1 : Int32))) h0 n0 _ T20.heap _
          rw [e20]
          exact ⟨rfl, N20, rfl⟩
set_option maxRecDepth 65536 in
set_option maxHeartbeats 40000000 in
theorem comes_1 {Post : Tables → Env → Array Value → State → Outcome → State → Prop} (hpost : ∀ tb e args s v u, (limb_1_1.after args s (.returned v) u = true ∧ limb_1_2.after args s (.returned v) u = true ∧ True) → FrameEnd s (.returned v) u (Jvm.fieldLocs frame_1_writes args s ++ Jvm.arrayLocs frame_1_arrays args s ++ Jvm.staticLocs frame_1_statics s) 0 0 → Post tb e args s (.returned v) u) :
    ArmFor flags0 classFile x code maxLocals ret World_1 tables_1 room_1 Calls_1 rest_1 Pre_1 Post := by
  intro l hfl _ _ p e ha hc hk s m args below hf hA hF happ hP
  obtain ⟨hcalls, hrest, hpre⟩ := hP
  obtain ⟨-, -, -, hnamed, -, -, -, hat⟩ := (Spec.applies_iff hf).mp happ
  obtain ⟨hg, hn⟩ := and_e (Cond.before_iff.mp (show (Jvm.Cond.and given_1 narrow_1).before args s = true from hpre))
  obtain ⟨gA0, gB0⟩ := and_e hg
  obtain ⟨gA1, gB1⟩ := and_e gB0
  obtain ⟨w0, w1, rfl⟩ : ∃ w0 w1 : Value, args = #[w0, w1] := by
    have hs : args.size = 2 := by simpa [Cond.value, given_1] using gA0
    obtain ⟨L⟩ := args
    match L, hs with
    | [w0, w1], _ => exact ⟨w0, w1, rfl⟩
  have hw := fun d (hd : d ∈ tables_1) => atoms_spec (ws := Jvm.Cond.code x code maxLocals ret :: tables_1) hat d (List.mem_cons_of_mem _ hd)
  have hfit : Fit s := fun {y c} hc i hi => by
    obtain ⟨ha, rfl⟩ := Array.getElem?_eq_some_iff.mp hc
    have q := List.all_eq_true.mp ((Array.all_eq_true_iff_forall_mem.mp hF) _ (Array.getElem_mem ha)) i (List.mem_range.mpr hi)
    simpa [Array.getElem?_eq_getElem hi] using q
  obtain ⟨i0, ei0⟩ := is_v gA1
  obtain rfl : w0 = (.int i0) := Option.some.inj ei0
  obtain ⟨i1, ei1⟩ := is_v gB1
  obtain rfl : w1 = (.int i1) := Option.some.inj ei1
  obtain ⟨n, o, h1, h2, h3, _, L, rfl, hQ, hq⟩ := rm0 l s _ hw tables_1 s.heap s.heap.size i0 i1 p e ha hc hk s m _ below hf ((Spec.applies_iff_loose hf).mp happ).1 ⟨rfl, State.Warmed39.refl s, rfl⟩ trivial
  obtain ⟨rfl, N, -⟩ := hQ
  refine ⟨n, _, h1, h2, h3, hpost _ _ _ _ _ _ ⟨Cond.after_iff.mpr rfl, Cond.after_iff.mpr (eq_i res_at (Term.int_eval (1)) rfl), trivial⟩ ⟨hq.1, hq.2.1, (hq.2.2.sift fun y hy => Or.inr (N y hy)).mono (by decide) (by decide)⟩⟩
theorem main_1_1 : Claimed_1_1 := comes_1 fun _ _ _ _ _ _ h hF => ⟨h.1, hF⟩
theorem main_1_2 : Claimed_1_2 := comes_1 fun _ _ _ _ _ _ h hF => ⟨h.2.1, hF⟩
end Jvm.Pilot.@@N@@
namespace Jvm.Pilot.@@N@@
open Jvm Jvm.ClassFile Sem Op Lib Jvm.Free Jvm.Stand Jvm.Pilot.@@N@@.Jvm.D
/-! MADE BY PROGRAM (witnessworld.py) out of the Statement's table words and the real class files: 12 classes; the members and pool entries that the words name. The judged class is class 1, her method 1. -/
namespace start1
open Jvm.ClassFile
def u (s : String) : CpInfo := .utf8 (stringToUtf16 s)
/-- a pool by its gaps: so many unusable entries, then the entry; so many at the end -/
def gap : Nat → List CpInfo → List CpInfo
  | 0, r => r
  | n + 1, r => .unusable :: gap n r
def poolList (es : List (Nat × CpInfo)) (last : Nat) : List CpInfo := es.foldr (fun e r => gap e.1 (e.2 :: r)) (gap last [])
def pool (es : List (Nat × CpInfo)) (last : Nat) : Array CpInfo := ⟨poolList es last⟩
def fileOf (pool : Array CpInfo) (this : Nat) (attrs : Array Attribute := #[]) (ms : Array MethodInfo := #[]) (fl : Nat := 33) (sup : Nat := 0) (ifs : Array Nat := #[]) (fds : Array FieldInfo := #[]) : ClassFile where
  minorVersion := 0
  majorVersion := 65
  constantPool := pool
  accessFlags := fl
  thisClass := this
  superClass := sup
  interfaces := ifs
  fields := fds
  methods := ms
  attributes := attrs
def plain (name : String) (sup : Option ClassId) : Class where
  name := name
  kind := .ordinary
  loader := none
  accessFlags := 33
  super := sup
  interfaces := #[]
  cf := none
  fields := #[]
  methods := #[]
  instanceTypes := #[]
  staticTypes := #[]
  resolved := #[]
  callSites := []
  init := .initialized
  statics := none
  mirror := none

def pool0 : Array CpInfo := pool [(5, u "<init>"), (0, u "()V"), (1, .class_ 10), (1, u "java/lang/Object")] 113

def k0m0 : Method := { name := "<init>", desc := "()V", sig := { parameters := [], returnType := none }, accessFlags := 1, code := none }
/-- java/lang/Object -/
def k0 : Class := { plain "java/lang/Object" none with
  accessFlags := 33
  interfaces := #[]
  cf := some (fileOf pool0 8 #[] #[{ accessFlags := 1, nameIndex := 5, descriptorIndex := 6, attributes := #[] }] 33 0 #[] #[])
  fields := #[]
  methods := #[k0m0]
  instanceTypes := #[]
  staticTypes := #[]
  resolved := Array.replicate 124 none
  statics := none }

def pool1 : Array CpInfo := pool [(2, .class_ 4), (1, u "java/lang/Object"), (0, u "<init>"), (0, u "()V"), (0, .integer 60000), (0, .methodref 9 10), (0, .class_ 11), (0, .nameAndType 12 13), (0, u "java/lang/Math"), (0, u "abs"), (0, u "(J)J"), (0, .long 55108), (3, .long 9223372036854775807), (1, .methodref 21 22), (0, .class_ 23), (0, .nameAndType 24 25), (0, u "com/example/ringleader/ringleader/election/RefereeElection"), (0, u "rankBound"), (0, u "(I)J"), (0, .class_ 27), (0, u "com/example/ringleader/ringleader/election/RefereeElectionRankBoundPinLaw"), (2, u "law"), (0, u "(II)Z")] 3

def k1m0 : Method := { name := "<init>", desc := "()V", sig := { parameters := [], returnType := none }, accessFlags := 1, code := none }
def k1c1 : Code := { maxStack := 4, maxLocals := 7, code := code, exceptionTable := #[], attributes := #[] }
def k1m1 : Method := { name := "law", desc := "(II)Z", sig := { parameters := [.int, .int], returnType := some .boolean }, accessFlags := 9, code := some k1c1 }
/-- com/example/ringleader/ringleader/election/RefereeElectionRankBoundPinLaw -/
def k1 : Class := { plain "com/example/ringleader/ringleader/election/RefereeElectionRankBoundPinLaw" (some 0) with
  accessFlags := 49
  interfaces := #[]
  cf := some (fileOf pool1 26 #[] #[{ accessFlags := 1, nameIndex := 5, descriptorIndex := 6, attributes := #[] }, { accessFlags := 9, nameIndex := 30, descriptorIndex := 31, attributes := #[] }] 49 2 #[] #[])
  fields := #[]
  methods := #[k1m0, k1m1]
  instanceTypes := #[]
  staticTypes := #[]
  resolved := Array.replicate 35 none
  statics := none }

def pool2 : Array CpInfo := pool [(1, .class_ 2), (0, u "java/lang/Math"), (1, .class_ 6), (1, u "java/lang/Object"), (0, u "<init>"), (0, u "()V"), (89, .class_ 100), (1, u "java/lang/Math$RandomNumberGeneratorHolder"), (23, u "abs"), (0, u "(J)J"), (46, u "negativeZeroFloatBits"), (0, u "J"), (2, u "negativeZeroDoubleBits"), (68, u "$assertionsDisabled"), (0, u "Z"), (91, u "twoToTheDoubleScaleDown"), (0, u "D"), (4, u "twoToTheDoubleScaleUp"), (9, u "E"), (3, u "PI"), (2, u "TAU"), (2, u "DEGREES_TO_RADIANS"), (0, u "RADIANS_TO_DEGREES")] 94

def k2m0 : Method := { name := "<init>", desc := "()V", sig := { parameters := [], returnType := none }, accessFlags := 2, code := none }
def k2c1 : Code := { maxStack := 4, maxLocals := 2, code := jdk_29_method_61_code, exceptionTable := #[], attributes := #[] }
def k2m1 : Method := { name := "abs", desc := "(J)J", sig := { parameters := [.long], returnType := some .long }, accessFlags := 9, code := some k2c1 }
/-- java/lang/Math -/
def k2 : Class := { plain "java/lang/Math" (some 0) with
  accessFlags := 49
  interfaces := #[]
  cf := some (fileOf pool2 1 #[.nestMembers #[98]] #[{ accessFlags := 2, nameIndex := 7, descriptorIndex := 8, attributes := #[] }, { accessFlags := 9, nameIndex := 124, descriptorIndex := 125, attributes := #[] }] 49 4 #[] #[{ accessFlags := 25, nameIndex := 354, descriptorIndex := 339, attributes := #[] }, { accessFlags := 25, nameIndex := 358, descriptorIndex := 339, attributes := #[] }, { accessFlags := 25, nameIndex := 361, descriptorIndex := 339, attributes := #[] }, { accessFlags := 26, nameIndex := 364, descriptorIndex := 339, attributes := #[] }, { accessFlags := 26, nameIndex := 365, descriptorIndex := 339, attributes := #[] }, { accessFlags := 26, nameIndex := 172, descriptorIndex := 173, attributes := #[] }, { accessFlags := 26, nameIndex := 176, descriptorIndex := 173, attributes := #[] }, { accessFlags := 8, nameIndex := 344, descriptorIndex := 339, attributes := #[] }, { accessFlags := 8, nameIndex := 338, descriptorIndex := 339, attributes := #[] }, { accessFlags := 4120, nameIndex := 245, descriptorIndex := 246, attributes := #[] }])
  fields := #[{ name := "E", type := .double, accessFlags := 25, slot := 0, constantValue := 0 }, { name := "PI", type := .double, accessFlags := 25, slot := 1, constantValue := 0 }, { name := "TAU", type := .double, accessFlags := 25, slot := 2, constantValue := 0 }, { name := "DEGREES_TO_RADIANS", type := .double, accessFlags := 26, slot := 3, constantValue := 0 }, { name := "RADIANS_TO_DEGREES", type := .double, accessFlags := 26, slot := 4, constantValue := 0 }, { name := "negativeZeroFloatBits", type := .long, accessFlags := 26, slot := 5, constantValue := 0 }, { name := "negativeZeroDoubleBits", type := .long, accessFlags := 26, slot := 6, constantValue := 0 }, { name := "twoToTheDoubleScaleUp", type := .double, accessFlags := 8, slot := 7, constantValue := 0 }, { name := "twoToTheDoubleScaleDown", type := .double, accessFlags := 8, slot := 8, constantValue := 0 }, { name := "$assertionsDisabled", type := .boolean, accessFlags := 4120, slot := 9, constantValue := 0 }]
  methods := #[k2m0, k2m1]
  instanceTypes := #[]
  staticTypes := #[.double, .double, .double, .double, .double, .long, .long, .double, .double, .boolean]
  resolved := Array.replicate 460 none
  statics := none }

def pool3 : Array CpInfo := pool [(11, .class_ 12), (0, u "com/example/ringleader/ringleader/model/Election"), (0, .class_ 14), (0, u "java/lang/Object")] 15

/-- com/example/ringleader/ringleader/model/Election -/
def k3 : Class := { plain "com/example/ringleader/ringleader/model/Election" (some 0) with
  accessFlags := 1537
  interfaces := #[]
  cf := some (fileOf pool3 11 #[] #[] 1537 13 #[] #[])
  fields := #[]
  methods := #[]
  instanceTypes := #[]
  staticTypes := #[]
  resolved := Array.replicate 30 none
  statics := none }

def pool4 : Array CpInfo := pool [(1, .class_ 2), (0, u "com/example/ringleader/ringleader/model/AsyncElection"), (0, .class_ 4), (0, u "java/lang/Object"), (0, .class_ 6), (0, u "com/example/ringleader/ringleader/model/Election")] 7

/-- com/example/ringleader/ringleader/model/AsyncElection -/
def k4 : Class := { plain "com/example/ringleader/ringleader/model/AsyncElection" (some 0) with
  accessFlags := 1537
  interfaces := #[3]
  cf := some (fileOf pool4 1 #[] #[] 1537 3 #[5] #[])
  fields := #[]
  methods := #[]
  instanceTypes := #[]
  staticTypes := #[]
  resolved := Array.replicate 14 none
  statics := none }

def pool5 : Array CpInfo := pool [(2, .class_ 4), (1, u "java/lang/Object"), (0, u "<init>"), (0, u "()V"), (22, .class_ 31), (1, u "com/example/ringleader/ringleader/election/RefereeElection"), (4, u "rankBound"), (0, u "(I)J"), (43, .long 9223372036854775807), (8, .class_ 91), (0, u "com/example/ringleader/ringleader/model/AsyncElection"), (0, u "FIRST_PHASE_REFEREES"), (0, u "J")] 38

def k5m0 : Method := { name := "<init>", desc := "()V", sig := { parameters := [], returnType := none }, accessFlags := 1, code := none }
def k5c1 : Code := { maxStack := 6, maxLocals := 5, code := prog_6_method_6_code, exceptionTable := #[], attributes := #[] }
def k5m1 : Method := { name := "rankBound", desc := "(I)J", sig := { parameters := [.int], returnType := some .long }, accessFlags := 8, code := some k5c1 }
/-- com/example/ringleader/ringleader/election/RefereeElection -/
def k5 : Class := { plain "com/example/ringleader/ringleader/election/RefereeElection" (some 0) with
  accessFlags := 33
  interfaces := #[4]
  cf := some (fileOf pool5 29 #[] #[{ accessFlags := 1, nameIndex := 5, descriptorIndex := 6, attributes := #[] }, { accessFlags := 8, nameIndex := 36, descriptorIndex := 37, attributes := #[] }] 33 2 #[90] #[{ accessFlags := 26, nameIndex := 92, descriptorIndex := 93, attributes := #[] }])
  fields := #[{ name := "FIRST_PHASE_REFEREES", type := .long, accessFlags := 26, slot := 0, constantValue := 0 }]
  methods := #[k5m0, k5m1]
  instanceTypes := #[]
  staticTypes := #[.long]
  resolved := Array.replicate 132 none
  statics := none }

def pool6 : Array CpInfo := pool [(1, u "java/lang/Cloneable"), (0, .class_ 1), (0, u "java/lang/Object"), (0, .class_ 3)] 3

/-- java/lang/Cloneable -/
def k6 : Class := { plain "java/lang/Cloneable" (some 0) with
  accessFlags := 1537
  interfaces := #[]
  cf := some (fileOf pool6 2 #[] #[] 1537 4 #[] #[])
  fields := #[]
  methods := #[]
  instanceTypes := #[]
  staticTypes := #[]
  resolved := Array.replicate 8 none
  statics := none }

def pool7 : Array CpInfo := pool [(1, u "java/io/Serializable"), (0, .class_ 1), (0, u "java/lang/Object"), (0, .class_ 3)] 3

/-- java/io/Serializable -/
def k7 : Class := { plain "java/io/Serializable" (some 0) with
  accessFlags := 1537
  interfaces := #[]
  cf := some (fileOf pool7 2 #[] #[] 1537 4 #[] #[])
  fields := #[]
  methods := #[]
  instanceTypes := #[]
  staticTypes := #[]
  resolved := Array.replicate 8 none
  statics := none }

/-- the primitive byte -/
def k8 : Class := { plain "byte" none with kind := .primitive 'B', accessFlags := 0x411 }
/-- [B -/
def k9 : Class := { plain "[B" (some 0) with kind := .array 8 .byte, interfaces := #[6, 7], accessFlags := 1041 }

/-- the primitive int -/
def k10 : Class := { plain "int" none with kind := .primitive 'I', accessFlags := 0x411 }
/-- [I -/
def k11 : Class := { plain "[I" (some 0) with kind := .array 10 .int, interfaces := #[6, 7], accessFlags := 1041 }

def heap : Heap := #[]
def classes : Array Class := #[k0, k1, k2, k3, k4, k5, k6, k7, k8, k9, k10, k11]
def interned : List (Array UInt16 × Addr) := []
def slotsUsed : Nat := 0
def theMethod : MethodId := ⟨1, 1⟩
def args0 : Array Value := #[.int 5, .int 1]
def aboutOver (below : List Frame) : State where
  vm := { classes := classes, interned := interned.toArray }
  heap := heap
  slotsUsed := slotsUsed
  threads := #[{ frames := .invoking theMethod args0 :: below }]
def below0 : List Frame := [.native { method := ⟨0, 0⟩, args := #[] }]
def about1 : State := aboutOver below0
def p0 : Program := .bare "" "" ""
def e0 : Env := launch0.env 0 0 0
theorem w_frames : about1.frames = Frame.invoking theMethod args0 :: below0 := rfl
set_option maxRecDepth 65536 in
theorem w_args : argsFit about1.vm theMethod args0 = true := by decide +kernel
set_option maxRecDepth 65536 in
theorem w_heap : heapFits about1 = true := by decide +kernel
set_option maxRecDepth 65536 in
theorem w_runnable : about1.curStatus? = some .runnable := by decide +kernel
set_option maxRecDepth 65536 in
theorem w_alone : about1.alone = true := by decide +kernel
set_option maxRecDepth 65536 in
theorem w_named : about1.methodNamed? x = some theMethod := by decide +kernel
set_option maxRecDepth 65536 in
theorem w_hears : about1.hears theMethod below0 = true := by decide +kernel
set_option maxRecDepth 65536 in
theorem w_ripe : about1.ripe theMethod args0 below0 = true := by decide +kernel
theorem w_running : about1.status = .running := rfl
set_option maxRecDepth 65536 in
theorem w_room : about1.hasRoom e0.platform room_1 = true :=
  launch0.hasRoom_least _ room_1 (by decide +kernel) (by decide +kernel) (by decide +kernel) (by decide +kernel) (by decide +kernel) (by decide +kernel)
theorem allAtoms_all (ts : List Jvm.Cond) (a : Array Jvm.Value) (st : Jvm.State) : (allAtoms ts).before a st = ts.all (fun c => c.before a st) := by
  induction ts with
  | nil => rfl
  | cons c t ih =>
    show (Jvm.Cond.and c (allAtoms t)).before a st = _
    rw [Jvm.Cond.before_and, ih, List.all_cons]
def words1 : List Jvm.Cond := Jvm.Cond.code x code maxLocals ret :: tables_1
/-- a 'code' word, met by the world's own term for the bytes: nothing is compared byte by byte -/
theorem code_word {y : MethodName} {bytes : ByteArray} {mx : Nat} {rt : Option FieldType} {a : Array Value} {s : State} {m : MethodId} {meth : Method} {c : Code} (h1 : s.methodNamed? y = some m) (h2 : s.vm.method? m = some meth) (h3 : meth.code = some c) (h4 : c.code = bytes)
    (h5 : (c.maxLocals == mx && c.exceptionTable.isEmpty && decide (c.maxStack ≤ mostOperands) && decide (meth.sig.returnType = rt) && !meth.locks && decide (parseMethodDescriptor y.desc = some meth.sig)) = true) : (Jvm.Cond.code y bytes mx rt).before a s = true := by
  simp only [Bool.and_eq_true, beq_iff_eq, Bool.not_eq_true', decide_eq_true_eq] at h5
  obtain ⟨⟨⟨⟨⟨g1, g2⟩, g3⟩, g4⟩, g5⟩, g6⟩ := h5
  simp [Cond.before, Cond.holds, Cond.value, h1, h2, h3, h4, g1, g2, g3, g4, g5, g6]
def isCode : Jvm.Cond → Bool
  | .code _ _ _ _ => true
  | _ => false
theorem all_split {L : List Jvm.Cond} {P : Jvm.Cond → Bool} (h1 : L.all (fun c => isCode c || P c) = true) (h2 : ∀ c ∈ L.filter isCode, P c = true) : L.all P = true := by
  refine List.all_eq_true.mpr fun c hc => ?_
  have h := List.all_eq_true.mp h1 c hc
  rcases Bool.eq_false_or_eq_true (isCode c) with hi | hi
  · exact h2 c (List.mem_filter.mpr ⟨hc, hi⟩)
  · simpa [hi] using h
set_option maxRecDepth 65536 in
theorem w_c0 : (Jvm.Cond.code x code maxLocals ret).before args0 about1 = true := code_word (m := ⟨1, 1⟩) (meth := k1m1) (c := k1c1) (by decide +kernel) rfl rfl rfl (by decide +kernel)
set_option maxRecDepth 65536 in
theorem w_c1 : (Jvm.Cond.code ({ cls := "java/lang/Math", name := "abs", desc := "(J)J" } : Jvm.MethodName) jdk_29_method_61_code (2 : Nat) (Option.some Jvm.ClassFile.FieldType.long)).before args0 about1 = true := code_word (m := ⟨2, 1⟩) (meth := k2m1) (c := k2c1) (by decide +kernel) rfl rfl rfl (by decide +kernel)
set_option maxRecDepth 65536 in
theorem w_c2 : (Jvm.Cond.code ({ cls := "com/example/ringleader/ringleader/election/RefereeElection", name := "rankBound", desc := "(I)J" } : Jvm.MethodName) prog_6_method_6_code (5 : Nat) (Option.some Jvm.ClassFile.FieldType.long)).before args0 about1 = true := code_word (m := ⟨5, 1⟩) (meth := k5m1) (c := k5c1) (by decide +kernel) rfl rfl rfl (by decide +kernel)
def codes1 : List Jvm.Cond := [Jvm.Cond.code x code maxLocals ret, Jvm.Cond.code ({ cls := "java/lang/Math", name := "abs", desc := "(J)J" } : Jvm.MethodName) jdk_29_method_61_code (2 : Nat) (Option.some Jvm.ClassFile.FieldType.long), Jvm.Cond.code ({ cls := "com/example/ringleader/ringleader/election/RefereeElection", name := "rankBound", desc := "(I)J" } : Jvm.MethodName) prog_6_method_6_code (5 : Nat) (Option.some Jvm.ClassFile.FieldType.long)]
set_option maxRecDepth 65536 in
theorem codes_eq : words1.filter isCode = codes1 := rfl
theorem w_codes : ∀ c ∈ words1.filter isCode, c.before args0 about1 = true := by
  rw [codes_eq]
  intro c hc
  simp only [codes1, List.mem_cons, List.not_mem_nil, or_false] at hc
  rcases hc with rfl | rfl | rfl
  · exact w_c0
  · exact w_c1
  · exact w_c2
set_option maxRecDepth 65536 in
theorem w_t1 : words1.all (fun c => isCode c || c.before args0 about1) = true := by decide +kernel
theorem w_tables : (allAtoms (Jvm.Cond.code x code maxLocals ret :: tables_1)).before args0 about1 = true := by
  rw [allAtoms_all]
  show words1.all (fun c => c.before args0 about1) = true
  refine all_split ?_ w_codes
  rw [w_t1]
set_option maxRecDepth 65536 in
theorem w_case : (Jvm.Cond.and given_1 narrow_1).before args0 about1 = true := by decide +kernel
theorem w_applies : (headSpec (Jvm.Cond.code x code maxLocals ret :: tables_1) room_1).applies x e0.platform about1 = true :=
  (Spec.applies_iff w_frames).mpr ⟨w_running, w_runnable, w_alone, w_named, w_hears, w_ripe, w_room, w_tables⟩
theorem atStart : AtStart classFile x code maxLocals ret World_1 tables_1 room_1 Calls_1 rest_1 Pre_1 launch0 p0 e0 about1 theMethod args0 below0 :=
  ⟨lists_1, trivial, launch0.admits_env _ _ _, launch0.least_env, fairChoices_fair.cas, fairChoices_fair.clock, w_frames, w_args, w_heap, w_applies, trivial, trivial, w_case⟩
end start1
theorem witness_1 : WitnessClaimed_1 := ⟨start1.p0, start1.e0, start1.about1, start1.theMethod, start1.args0, start1.below0, start1.atStart⟩
end Jvm.Pilot.@@N@@
