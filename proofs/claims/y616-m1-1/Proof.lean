import JvmDerived
import JvmDerived.Pilot.@@N@@Statement
import JvmDerived.Pilot.@@N@@Code
set_option linter.unusedVariables false
set_option linter.unusedSimpArgs false
namespace Jvm.RoadKit
open Sem ClassFile Op Lib Jvm.Stand Jvm.Free Jvm.LawKit
section New
variable {p : Program} {l : Launch} {e : Env} {R : Room} {s : State} {m : MethodId} {args : Array Value} {below : List Frame} {meth : Method} {c : Code} {T : State} {locs : List Loc} {cells slots : Nat}
theorem retI (X : Stand p l e R s m args below meth c T locs cells slots) (hx : p.tables.exec = Jvm.exec) {pc : Nat} {Ls : Array Slot} {z : Int32} {rest : List Value} (hret : meth.sig.returnType = some .int) (hd : decode c.code pc = .ok (.ireturn, 1)) {fs : List Frame}
    (hl : ∀ (f : JFrame) (acts : List Action), f.method = m → f.locked = none → f.entered = [] → (doReturn e (T.setTop f) acts (some (.int z))).1 = T.setFrames fs) : Steps p.tables e below (T.setTop (mkF m pc Ls (.int z :: rest))) (T.setFrames fs) :=
  retOut X hx hret rfl (Or.inl ⟨rfl, Or.inl rfl, _, rfl⟩) hd hl
end New
end Jvm.RoadKit
namespace Jvm.Pilot.@@N@@
open Jvm Jvm.ClassFile Sem Op Lib Jvm.Free Jvm.Stand Jvm.LawKit Jvm.RoadKit Bundle Jvm.Pilot.@@N@@.Jvm.D
/-- what a body that writes nothing leaves: its value, no place written, the heap as it was -/
def PQ (w : Option Value) (h0 : Heap) (n0 : Nat) (v : Option Value) (h : Heap) (L : List Loc) : Prop := v = w ∧ Fr n0 L ∧ h = h0
def LQ (n0 : Nat) (v : Option Value) (h : Heap) (L : List Loc) : Prop := v = some (.int (1 : Int32)) ∧ Fr n0 L ∧ True
theorem own_pd0 : parseMethodDescriptor "()V" = some ⟨[], none⟩ := by decide +kernel
theorem own_pd1 : parseMethodDescriptor "(JJ)V" = some ⟨[.long, .long], none⟩ := by decide +kernel
theorem own_pd2 : parseMethodDescriptor "()Z" = some ⟨[], some .boolean⟩ := by decide +kernel
theorem own_pd3 : parseMethodDescriptor "(J)Lcom/example/hangslot/hangslot/LockStore$Acquisition;" = some ⟨[.long], some (.object "com/example/hangslot/hangslot/LockStore$Acquisition")⟩ := by decide +kernel
theorem own_pos {p : Int64} (h : ¬ ((lcmpW (p &&& (9223372036854775807 : Int64)) (0 : Int64)) = (0 : Int32))) : (0 : Int32) < (lcmpW (p &&& (9223372036854775807 : Int64)) (0 : Int64)) := by
  rw [lw_eq, ← Int64.toInt_inj] at h
  rw [lw_gt, Int64.lt_iff_toInt_lt]
  have q := c_maskL p 9223372036854775807 63 (by decide) (by decide)
  have e : (0 : Int64).toInt = 0 := rfl
  omega
theorem own_npos {p : Int64} (h : (lcmpW (p &&& (9223372036854775807 : Int64)) (0 : Int64)) = (0 : Int32)) : ¬ ((0 : Int32) < (lcmpW (p &&& (9223372036854775807 : Int64)) (0 : Int64))) := by
  rw [h]; decide
theorem own_eqv {s : State} {args : Array Value} {t u : Term} {w : Value} (hu : u.eval args s none [] s = some w) (h : (Cond.eq t u).value args s none s [] = some true) (hk : (match w with | .retAddr _ => false | .float _ => false | .double _ => false | _ => true) = true := by rfl) : t.eval args s none [] s = some w := by
  obtain ⟨x, y, e1, e2, -, -⟩ := cmp_v (Or.inl h)
  cases hu.symm.trans e2
  rw [e1]
  simp only [Cond.value, e1, hu] at h
  cases x <;> cases w <;> simp at h hk ⊢ <;> exact h
theorem own_fld {s : State} {args : Array Value} {t : Term} {C n d : String} {a : Addr} {v : Value} (ht : t.eval args s none [] s = some (.ref a)) (h : (Term.field t C n d).eval args s none [] s = some v) : Fld s s.heap a C n d v := Fld.start ((fld_at ht).symm.trans h)
theorem own_len {s : State} {args : Array Value} {t : Term} {ty : FieldType} {a : Addr} {n : Int32} (ht : t.eval args s none [] s = some (.ref a)) (ha : (Cond.arrayOf t ty).value args s none s [] = some true) (hl : (Cond.eq (.length t) (.int n)).value args s none s [] = some true) (hn : ¬ n < 0) :
    ∃ c : Cell, Arr s s.heap a c ty ∧ c.slots.size < 2 ^ 31 ∧ c.slots.size.toInt32 = n := by
  obtain ⟨c, A⟩ := Arr.start ht ha
  have e := own_eqv (Term.int_eval n) hl
  have A2 := A.fin (Vm.Alike.refl _)
  obtain ⟨x, c2, e1, e2, e3⟩ := Term.length_spec e
  cases ht.symm.trans e1
  cases A2.symm.trans e2
  have h31 := SBG.length_lt ht A2 e
  refine ⟨c, A, h31, ?_⟩
  have := len_f ht A2 h31
  rw [e] at this
  simpa using (Option.some.inj this).symm
theorem own_elem {s : State} {args : Array Value} {t : Term} {ty : FieldType} {a : Addr} {c : Cell} {j : Int32} {v : Value} (ht : t.eval args s none [] s = some (.ref a)) (A : Arr s s.heap a c ty) (h : (Term.elem t (.int j)).eval args s none [] s = some v) : c.slots[j.toNatClampNeg]? = some v := (elem_in h ht (Term.int_eval j) A.1).2
theorem own_all0 {s : State} {args : Array Value} {t : Term} {ty : FieldType} {a : Addr} {c : Cell} {k n : Int32} (ht : ∀ idx, t.eval args s none idx s = some (.ref a)) (A : Arr s s.heap a c ty) (h31 : c.slots.size < 2 ^ 31) (hn : c.slots.size.toInt32 = n)
    (h : (Cond.all t (.or (.lt (.index 0) (.int k)) (.eq (.elem t (.index 0)) (.int 0)))).value args s none s [] = some true) (j : Nat) (hj : j < n.toNatClampNeg) (hk : ¬ j.toInt32 < k) : c.slots[j]? = some (.int 0) := by
  have A2 := A.fin (Vm.Alike.refl _)
  have hsz : n.toNatClampNeg = c.slots.size := by rw [← hn]; simp only [Int32.toNatClampNeg, len_toInt h31]; rfl
  have hj2 : j < c.slots.size := hsz ▸ hj
  have q := Cond.all_elim (ht []) A2 h j hj2
  have e1 : (Term.index 0).eval args s none [j] s = some (.int j.toInt32) := rfl
  have l1 : (Cond.lt (.index 0) (.int k)).value args s none s [j] = some false := by
    simp [Cond.value, e1, Term.int_eval, hk]
  have q2 : (Cond.eq (.elem t (.index 0)) (.int 0)).value args s none s [j] = some true := by
    have q3 : (match (Cond.lt (.index 0) (.int k)).value args s none s [j] with | some false => (Cond.eq (.elem t (.index 0)) (.int 0)).value args s none s [j] | x => x) = some true := q
    rw [l1] at q3
    exact q3
  obtain ⟨x, y, e2, e3, -, -⟩ := cmp_v (Or.inl q2)
  cases (Term.int_eval (args := args) (first := s) (o := none) (idx := [j]) (s := s) 0).symm.trans e3
  have e4 : (Term.elem t (.index 0)).eval args s none [j] s = some (.int 0) := by
    simp only [Cond.value, e2, e3] at q2
    rw [e2]; cases x <;> simp at q2 ⊢; exact q2
  have e5 := elem_in e4 (ht [j]) e1 A.1
  have e6 : (Nat.toInt32 j).toNatClampNeg = j := by simp only [Int32.toNatClampNeg, len_toInt (Nat.lt_trans hj2 h31)]; rfl
  rw [e6] at e5
  exact e5.2
theorem own_csne {s : State} {args : Array Value} {t : Term} {v : Int32} (e : t.eval args s none [] s = some (.int v)) (h : (Cond.not (.eq t (.int 0))).value args s none s [] = some true) : ¬ (v = (0 : Int32)) := by
  have q := not_v h
  intro hv
  subst hv
  have q2 := Cond.eq_ints e (Term.int_eval (args := args) (first := s) (o := none) (idx := []) (s := s) 0)
  rw [q2] at q
  simp at q
theorem own_orref {s : State} {args : Array Value} {C f d : String} (h : (Cond.isRef (.static C f d)).value args s none s [] = some true) (hi : (Cond.initializedFor C f d).before args s = true ∨ ((Cond.initialized C).before args s = true ∧ (Cond.laysStatic C f d).before args s = true)) : (Sta s s.heap C f d .null) ∨ (∃ a, Sta s s.heap C f d (.ref a)) := by
  obtain ⟨x, e, hr⟩ := isR_v h
  rcases ref_cases hr with rfl | ⟨a, rfl⟩
  · exact Or.inl (Sta.start e hi)
  · exact Or.inr ⟨a, Sta.start e hi⟩
def own_St (Z : State) (A : Nat → Addr) (K : Nat → ClassId) : Prop := ((Sta Z Z.heap "com/example/hangslot/hangslot/LockStore$Acquisition" "REFUSED" "Lcom/example/hangslot/hangslot/LockStore$Acquisition;" (.ref (A 0))) ∧ (Exa Z Z.heap (A 0) "com/example/hangslot/hangslot/LockStore$Acquisition") ∧ (Fld Z Z.heap (A 0) "com/example/hangslot/hangslot/LockStore$Acquisition" "fencingToken" "J" (.long (0 : Int64))) ∧ True) ∧ True
theorem own_d_jdk_30_method_1_code_0 : decode jdk_30_method_1_code 0 = .ok (.aload_n 0, 1) := by decide +kernel
theorem own_d_jdk_30_method_1_code_1 : decode jdk_30_method_1_code 1 = .ok (.invokespecial 1, 3) := by decide +kernel
theorem own_d_jdk_30_method_1_code_4 : decode jdk_30_method_1_code 4 = .ok (.return_, 1) := by decide +kernel
theorem own_pn0 : plainName "java/lang/Record" = true := by first | (simp [plainName, overriddenIn]; done) | decide +kernel
theorem own_ef_rm2 (m : MethodId) (p1 : Int64) (p2 : Int64) (A : Nat → Addr) (K : Nat → ClassId)  (b25 : Addr) : entryFrame m #[(.ref b25)] 1 = mkF m 0 #[.val (.ref b25)] [] := by first | (simp [entryFrame, mkF, argsToLocals, Value.category, maxLocals]; done) | rfl
set_option maxRecDepth 65536 in
set_option maxHeartbeats 40000000 in
theorem rm2 (l : Launch) (Z : State) (a0 : Array Value) (hw : ∀ d ∈ tables_1, d.before a0 Z = true) (ws : List Jvm.Cond) (h0 : Heap) (n0 : Nat) (p1 : Int64) (p2 : Int64) (A : Nat → Addr) (K : Nat → ClassId)  (b25 : Addr) (EN : own_St Z A K) (OL0 : Old Z n0 h0) :
    MetFree l (⟨"java/lang/Record", "<init>", "()V"⟩ : MethodName) (head1 (Jvm.Cond.code (⟨"java/lang/Record", "<init>", "()V"⟩ : MethodName) jdk_30_method_1_code 1 none :: ws) ({ frames := 1, cells := 0, slots := 0, locals := 12 } : Room)) (fun a U => a = #[(.ref b25)] ∧ Z.Warmed39 U.vm ∧ U.heap = h0) (fun _ _ _ _ _ => True) (fun _ U o U' => ∃ v L, o = .returned v ∧ (PQ none h0 n0) v U'.heap L ∧ FrameEnd U o U' L ({ frames := 1, cells := 0, slots := 0, locals := 12 } : Room).cells ({ frames := 1, cells := 0, slots := 0, locals := 12 } : Room).slots) := by
  refine MetFree.of_bodySF (plainFor_of_name own_pn0) hisR ?_
  intro p e s m args below meth c s₁ Bd hml0 hP hK
  obtain ⟨rfl, hZ, hh⟩ := hP
  have hx := Bd.exec
  have hby := Bd.bytes
  have hml : c.maxLocals = 1 := hml0
  have hown : s.vm.findClass "java/lang/Record" = some m.cls := findClass_of_methodNamed Bd.named
  have hnm := (name_of_methodNamed Bd.named Bd.method).1
  have X0 : Stand p l e ({ frames := 1, cells := 0, slots := 0, locals := 12 } : Room) s m #[(.ref b25)] below meth c s₁ [] 0 0 := Stand.of_body Bd
  have e0 : s₁.heap = h0 := by rw [← hh, Bd.state]; rfl
  have N0 := Fr.nil n0
  have pre0 : ∀ t, Steps p.tables e below (s₁.setTop (mkF m 0 #[.val (.ref b25)] [])) t → Steps p.tables e below (s₁.setTop (entryFrame m #[(.ref b25)] 1)) t := fun t k => castTop (own_ef_rm2 m p1 p2 A K b25) k
  have KK0 : Keep h0 h0 [] := Keep.refl _ _
  obtain ⟨T26, X26, e26, st26⟩ := initO X0 hx hZ hown (hw _ (List.mem_of_getElem? (i := 12) rfl)) (hw _ (List.mem_of_getElem? (i := 13) rfl)) (hw _ (List.mem_of_getElem? (i := 14) rfl)) e0 (g := (mkF m 1 #[.val (.ref b25)] [(.ref b25)])) rfl (by rw [hml]; rfl) rfl (hb hby own_d_jdk_30_method_1_code_1) (by decide) (W := 0) (by show 2 * 0 + _ ≤ _; exact Nat.le_of_eq rfl) (by decide)
  obtain ⟨fs, hr, hrun, hended, hW, hsame⟩ := X26.leave (v := none) (fun _ => rfl)
  refine ⟨_, _, pre0 _ ?_, hrun, hended, _, _, rfl, ?_, ⟨_, rfl⟩, hW, hsame.mono (by decide) (by decide)⟩
  · show Steps p.tables e below (s₁.setTop (mkF m 0 #[.val (.ref b25)] [])) _
    refine XS.aloadN X0.here hx rfl (hb hby own_d_jdk_30_method_1_code_0) rfl rfl ?_
    show Steps p.tables e below (s₁.setTop (mkF m 1 #[.val (.ref b25)] [(.ref b25)])) _
    refine st26 _ ?_
    show Steps p.tables e below (T26.setTop (mkF m 4 #[.val (.ref b25)] [])) _
    exact X26.returnOut hx Bd.returns (hb hby own_d_jdk_30_method_1_code_4) hr
  · show PQ none h0 n0 _ T26.heap _
    rw [e26]
    exact ⟨rfl, N0, rfl⟩
def Q_rm1 (Z : State) (p1 : Int64) (p2 : Int64) (A : Nat → Addr) (K : Nat → ClassId) (b25 : Addr) (h0 : Heap) (n0 : Nat) (v : Option Value) (h : Heap) (L : List Loc) : Prop := v = none ∧ Fr n0 L ∧ Keep h0 h [b25] ∧ (Exa Z h b25 "com/example/hangslot/hangslot/LockStore$Acquisition") ∧ (Fld Z h b25 "com/example/hangslot/hangslot/LockStore$Acquisition" "fencingToken" "J" (.long (p1 &&& (9223372036854775807 : Int64)))) ∧ (Fld Z h b25 "com/example/hangslot/hangslot/LockStore$Acquisition" "millisUntilFree" "J" (.long p2))
theorem own_d_prog_8_method_1_code_0 : decode prog_8_method_1_code 0 = .ok (.aload_n 0, 1) := by decide +kernel
theorem own_d_prog_8_method_1_code_1 : decode prog_8_method_1_code 1 = .ok (.invokespecial 1, 3) := by decide +kernel
theorem own_d_prog_8_method_1_code_4 : decode prog_8_method_1_code 4 = .ok (.aload_n 0, 1) := by decide +kernel
theorem own_d_prog_8_method_1_code_5 : decode prog_8_method_1_code 5 = .ok (.lload_n 1, 1) := by decide +kernel
theorem own_d_prog_8_method_1_code_6 : decode prog_8_method_1_code 6 = .ok (.putfield 7, 3) := by decide +kernel
theorem own_d_prog_8_method_1_code_9 : decode prog_8_method_1_code 9 = .ok (.aload_n 0, 1) := by decide +kernel
theorem own_d_prog_8_method_1_code_10 : decode prog_8_method_1_code 10 = .ok (.lload_n 3, 1) := by decide +kernel
theorem own_d_prog_8_method_1_code_11 : decode prog_8_method_1_code 11 = .ok (.putfield 13, 3) := by decide +kernel
theorem own_d_prog_8_method_1_code_14 : decode prog_8_method_1_code 14 = .ok (.return_, 1) := by decide +kernel
theorem own_pn1 : plainName "com/example/hangslot/hangslot/LockStore$Acquisition" = true := by first | (simp [plainName, overriddenIn]; done) | decide +kernel
theorem own_ef_rm1 (m : MethodId) (p1 : Int64) (p2 : Int64) (A : Nat → Addr) (K : Nat → ClassId)  (b25 : Addr) : entryFrame m #[(.ref b25), (.long (p1 &&& (9223372036854775807 : Int64))), (.long p2)] 5 = mkF m 0 #[.val (.ref b25), .val (.long (p1 &&& (9223372036854775807 : Int64))), .second, .val (.long p2), .second] [] := by first | (simp [entryFrame, mkF, argsToLocals, Value.category, maxLocals]; done) | rfl
set_option maxRecDepth 65536 in
set_option maxHeartbeats 40000000 in
theorem rm1 (l : Launch) (Z : State) (a0 : Array Value) (hw : ∀ d ∈ tables_1, d.before a0 Z = true) (ws : List Jvm.Cond) (h0 : Heap) (n0 : Nat) (p1 : Int64) (p2 : Int64) (A : Nat → Addr) (K : Nat → ClassId)  (b25 : Addr) (EN : own_St Z A K) (OL0 : Old Z n0 h0) (G_F_b25_com_example_hangslot_hangslot_LockStore_Acquisition_fencingToken : Fld Z h0 b25 "com/example/hangslot/hangslot/LockStore$Acquisition" "fencingToken" "J" (.long (0 : Int64))) (G_E_b25 : Exa Z h0 b25 "com/example/hangslot/hangslot/LockStore$Acquisition") (G_F_b25_com_example_hangslot_hangslot_LockStore_Acquisition_millisUntilFree : Fld Z h0 b25 "com/example/hangslot/hangslot/LockStore$Acquisition" "millisUntilFree" "J" (.long (0 : Int64))) (gn_b25 : n0 ≤ b25) :
    MetFree l (⟨"com/example/hangslot/hangslot/LockStore$Acquisition", "<init>", "(JJ)V"⟩ : MethodName) (head1 (Jvm.Cond.code (⟨"com/example/hangslot/hangslot/LockStore$Acquisition", "<init>", "(JJ)V"⟩ : MethodName) prog_8_method_1_code 5 none :: ws) ({ frames := 2, cells := 0, slots := 0, locals := 24 } : Room)) (fun a U => a = #[(.ref b25), (.long (p1 &&& (9223372036854775807 : Int64))), (.long p2)] ∧ Z.Warmed39 U.vm ∧ U.heap = h0) (fun _ _ _ _ _ => True) (fun _ U o U' => ∃ v L, o = .returned v ∧ Q_rm1 Z p1 p2 A K b25 h0 n0 v U'.heap L ∧ FrameEnd U o U' L ({ frames := 2, cells := 0, slots := 0, locals := 24 } : Room).cells ({ frames := 2, cells := 0, slots := 0, locals := 24 } : Room).slots) := by
  refine MetFree.of_bodySF (plainFor_of_name own_pn1) hisR ?_
  intro p e s m args below meth c s₁ Bd hml0 hP hK
  obtain ⟨rfl, hZ, hh⟩ := hP
  have hx := Bd.exec
  have hby := Bd.bytes
  have hml : c.maxLocals = 5 := hml0
  have hown : s.vm.findClass "com/example/hangslot/hangslot/LockStore$Acquisition" = some m.cls := findClass_of_methodNamed Bd.named
  have hnm := (name_of_methodNamed Bd.named Bd.method).1
  have X0 : Stand p l e ({ frames := 2, cells := 0, slots := 0, locals := 24 } : Room) s m #[(.ref b25), (.long (p1 &&& (9223372036854775807 : Int64))), (.long p2)] below meth c s₁ [] 0 0 := Stand.of_body Bd
  have e0 : s₁.heap = h0 := by rw [← hh, Bd.state]; rfl
  have N0 := Fr.nil n0
  have pre0 : ∀ t, Steps p.tables e below (s₁.setTop (mkF m 0 #[.val (.ref b25), .val (.long (p1 &&& (9223372036854775807 : Int64))), .second, .val (.long p2), .second] [])) t → Steps p.tables e below (s₁.setTop (entryFrame m #[(.ref b25), (.long (p1 &&& (9223372036854775807 : Int64))), (.long p2)] 5)) t := fun t k => castTop (own_ef_rm1 m p1 p2 A K b25) k
  have KK0 : Keep h0 h0 [b25] := Keep.refl _ _
  obtain ⟨_, _, ⟨T27, L27, k27, n27⟩, -, X27, ⟨Lc27, hQ27, l27, y27, z27⟩, st27⟩ := X0.specialBack hx (y := (⟨"java/lang/Record", "<init>", "()V"⟩ : MethodName)) rfl hown (mvT hZ (hw _ (List.mem_of_getElem? (i := 7) rfl))) (mvT hZ (hw _ (List.mem_of_getElem? (i := 8) rfl))) (mvT hZ (hw _ (List.mem_of_getElem? (i := 11) rfl))) (by decide) (backOf (W := 0) (rm2 l Z a0 hw [] h0 n0 p1 p2 A K b25 EN OL0) hZ (hw _ (List.mem_of_getElem? (i := 11) rfl)) (hw _ (List.mem_of_getElem? (i := 10) rfl)) (by decide) (by decide)) (g := (mkF m 1 #[.val (.ref b25), .val (.long (p1 &&& (9223372036854775807 : Int64))), .second, .val (.long p2), .second] [(.ref b25)])) rfl (by rw [hml]; rfl) (Steps.refl _) (a := b25) (argsL := []) (rest := []) (lenOf own_pd0 rfl) rfl (by show 2 * 0 + _ ≤ _; exact Nat.le_of_eq rfl) (hb hby own_d_prog_8_method_1_code_1) (fun _ _ => ⟨rfl, e0, (by decide : 0 + 0 ≤ _), (by decide : 0 + 0 ≤ _)⟩)
  dsimp only [Pt.U, Pt.locs, Pt.cells, Pt.slots] at X27 l27 y27 z27 st27 hQ27
  subst l27 y27 z27
  obtain ⟨rfl, N27q, e27⟩ := hQ27
  have N27 := Fr.app N0 N27q
  obtain ⟨T28, h28, X28, e28, W28, st28⟩ := putF X27 hx hZ hown (host := "") (Or.inl (hw _ (List.mem_of_getElem? (i := 15) rfl))) Via.refl e27 G_F_b25_com_example_hangslot_hangslot_LockStore_Acquisition_fencingToken G_E_b25 (Or.inr ⟨(hw _ (List.mem_of_getElem? (i := 16) rfl)), rfl, hnm⟩) (hw _ (List.mem_of_getElem? (i := 2) rfl)) (ty := .long) (by decide) rfl rfl (g := (mkF m 6 #[.val (.ref b25), .val (.long (p1 &&& (9223372036854775807 : Int64))), .second, .val (.long p2), .second] [(.long (p1 &&& (9223372036854775807 : Int64))), (.ref b25)])) rfl rfl (hb hby own_d_prog_8_method_1_code_6)
  have NF28 := Fr.snoc X28 N27 gn_b25
  have OL28 : Old Z n0 h28 := OL0.wr W28 gn_b25
  have KK28 : Keep h0 h28 [b25] := KK0.wr W28 (Or.inl (List.mem_of_getElem? (i := 0) rfl))
  have Fw28 : Fld Z h28 b25 "com/example/hangslot/hangslot/LockStore$Acquisition" "fencingToken" "J" (.long (p1 &&& (9223372036854775807 : Int64))) := G_F_b25_com_example_hangslot_hangslot_LockStore_Acquisition_fencingToken.same W28
  have fx29 : Fld Z h28 b25 "com/example/hangslot/hangslot/LockStore$Acquisition" "millisUntilFree" "J" (.long (0 : Int64)) := (G_F_b25_com_example_hangslot_hangslot_LockStore_Acquisition_millisUntilFree.other W28 (Or.inr (slot_ne (Or.inr (hw _ (List.mem_of_getElem? (i := 18) rfl))) (Or.inr (hw _ (List.mem_of_getElem? (i := 16) rfl))) (by decide) (t := .long) (t' := .long) (by decide) (by decide))))
  have fx30 : Exa Z h28 b25 "com/example/hangslot/hangslot/LockStore$Acquisition" := (G_E_b25.wr W28)
  obtain ⟨T31, h31, X31, e31, W31, st31⟩ := putF X28 hx hZ hown (host := "") (Or.inl (hw _ (List.mem_of_getElem? (i := 17) rfl))) Via.refl e28 fx29 fx30 (Or.inr ⟨(hw _ (List.mem_of_getElem? (i := 18) rfl)), rfl, hnm⟩) (hw _ (List.mem_of_getElem? (i := 2) rfl)) (ty := .long) (by decide) rfl rfl (g := (mkF m 11 #[.val (.ref b25), .val (.long (p1 &&& (9223372036854775807 : Int64))), .second, .val (.long p2), .second] [(.long p2), (.ref b25)])) rfl rfl (hb hby own_d_prog_8_method_1_code_11)
  have NF31 := Fr.snoc X31 NF28 gn_b25
  have OL31 : Old Z n0 h31 := OL28.wr W31 gn_b25
  have KK31 : Keep h0 h31 [b25] := KK28.wr W31 (Or.inl (List.mem_of_getElem? (i := 0) rfl))
  have Fw31 : Fld Z h31 b25 "com/example/hangslot/hangslot/LockStore$Acquisition" "millisUntilFree" "J" (.long p2) := fx29.same W31
  have fx32 : Exa Z h31 b25 "com/example/hangslot/hangslot/LockStore$Acquisition" := (fx30.wr W31)
  have fx33 : Fld Z h31 b25 "com/example/hangslot/hangslot/LockStore$Acquisition" "fencingToken" "J" (.long (p1 &&& (9223372036854775807 : Int64))) := (Fw28.other W31 (Or.inr (slot_ne (Or.inr (hw _ (List.mem_of_getElem? (i := 16) rfl))) (Or.inr (hw _ (List.mem_of_getElem? (i := 18) rfl))) (by decide) (t := .long) (t' := .long) (by decide) (by decide))))
  obtain ⟨fs, hr, hrun, hended, hW, hsame⟩ := X31.leave (v := none) (fun _ => rfl)
  refine ⟨_, _, pre0 _ ?_, hrun, hended, _, _, rfl, ?_, ⟨_, rfl⟩, hW, hsame.mono (by decide) (by decide)⟩
  · show Steps p.tables e below (s₁.setTop (mkF m 0 #[.val (.ref b25), .val (.long (p1 &&& (9223372036854775807 : Int64))), .second, .val (.long p2), .second] [])) _
    refine XS.aloadN X0.here hx rfl (hb hby own_d_prog_8_method_1_code_0) rfl rfl ?_
    show Steps p.tables e below (s₁.setTop (mkF m 1 #[.val (.ref b25), .val (.long (p1 &&& (9223372036854775807 : Int64))), .second, .val (.long p2), .second] [(.ref b25)])) _
    refine st27.trans ?_
    show Steps p.tables e below (T27.setTop (mkF m 4 #[.val (.ref b25), .val (.long (p1 &&& (9223372036854775807 : Int64))), .second, .val (.long p2), .second] [])) _
    refine XS.aloadN X27.here hx rfl (hb hby own_d_prog_8_method_1_code_4) rfl rfl ?_
    show Steps p.tables e below (T27.setTop (mkF m 5 #[.val (.ref b25), .val (.long (p1 &&& (9223372036854775807 : Int64))), .second, .val (.long p2), .second] [(.ref b25)])) _
    refine XS.lloadN X27.here hx rfl (hb hby own_d_prog_8_method_1_code_5) rfl ?_
    show Steps p.tables e below (T27.setTop (mkF m 6 #[.val (.ref b25), .val (.long (p1 &&& (9223372036854775807 : Int64))), .second, .val (.long p2), .second] [(.long (p1 &&& (9223372036854775807 : Int64))), (.ref b25)])) _
    refine st28 _ ?_
    show Steps p.tables e below (T28.setTop (mkF m 9 #[.val (.ref b25), .val (.long (p1 &&& (9223372036854775807 : Int64))), .second, .val (.long p2), .second] [])) _
    refine XS.aloadN X28.here hx rfl (hb hby own_d_prog_8_method_1_code_9) rfl rfl ?_
    show Steps p.tables e below (T28.setTop (mkF m 10 #[.val (.ref b25), .val (.long (p1 &&& (9223372036854775807 : Int64))), .second, .val (.long p2), .second] [(.ref b25)])) _
    refine XS.lloadN X28.here hx rfl (hb hby own_d_prog_8_method_1_code_10) rfl ?_
    show Steps p.tables e below (T28.setTop (mkF m 11 #[.val (.ref b25), .val (.long (p1 &&& (9223372036854775807 : Int64))), .second, .val (.long p2), .second] [(.long p2), (.ref b25)])) _
    refine st31 _ ?_
    show Steps p.tables e below (T31.setTop (mkF m 14 #[.val (.ref b25), .val (.long (p1 &&& (9223372036854775807 : Int64))), .second, .val (.long p2), .second] [])) _
    exact X31.returnOut hx Bd.returns (hb hby own_d_prog_8_method_1_code_14) hr
  · show Q_rm1 Z p1 p2 A K b25 h0 n0 _ T31.heap _
    rw [e31]
    exact ⟨rfl, NF31, KK31, fx32, fx33, Fw31⟩
theorem own_d_prog_8_method_4_code_0 : decode prog_8_method_4_code 0 = .ok (.aload_n 0, 1) := by decide +kernel
theorem own_d_prog_8_method_4_code_1 : decode prog_8_method_4_code 1 = .ok (.getfield 7, 3) := by decide +kernel
theorem own_d_prog_8_method_4_code_4 : decode prog_8_method_4_code 4 = .ok (.lconst 0, 1) := by decide +kernel
theorem own_d_prog_8_method_4_code_5 : decode prog_8_method_4_code 5 = .ok (.lcmp, 1) := by decide +kernel
theorem own_d_prog_8_method_4_code_6 : decode prog_8_method_4_code 6 = .ok (.ifCond .le 7, 3) := by decide +kernel
theorem own_d_prog_8_method_4_code_13 : decode prog_8_method_4_code 13 = .ok (.iconst 0, 1) := by decide +kernel
theorem own_d_prog_8_method_4_code_14 : decode prog_8_method_4_code 14 = .ok (.ireturn, 1) := by decide +kernel
theorem own_ef_rm3 (m : MethodId) (p1 : Int64) (p2 : Int64) (A : Nat → Addr) (K : Nat → ClassId)  (b25 : Addr) : entryFrame m #[(.ref b25)] 1 = mkF m 0 #[.val (.ref b25)] [] := by first | (simp [entryFrame, mkF, argsToLocals, Value.category, maxLocals]; done) | rfl
set_option maxRecDepth 65536 in
set_option maxHeartbeats 40000000 in
theorem rm3 (l : Launch) (Z : State) (a0 : Array Value) (hw : ∀ d ∈ tables_1, d.before a0 Z = true) (ws : List Jvm.Cond) (h0 : Heap) (n0 : Nat) (p1 : Int64) (p2 : Int64) (A : Nat → Addr) (K : Nat → ClassId)  (b25 : Addr) (EN : own_St Z A K) (OL0 : Old Z n0 h0) (G_F_b25_com_example_hangslot_hangslot_LockStore_Acquisition_fencingToken : Fld Z h0 b25 "com/example/hangslot/hangslot/LockStore$Acquisition" "fencingToken" "J" (.long (p1 &&& (9223372036854775807 : Int64)))) (hp_24 : (lcmpW (p1 &&& (9223372036854775807 : Int64)) (0 : Int64)) = (0 : Int32)) :
    MetFree l (⟨"com/example/hangslot/hangslot/LockStore$Acquisition", "taken", "()Z"⟩ : MethodName) (head1 (Jvm.Cond.code (⟨"com/example/hangslot/hangslot/LockStore$Acquisition", "taken", "()Z"⟩ : MethodName) prog_8_method_4_code 1 (some .boolean) :: ws) ({ frames := 0, cells := 0, slots := 0, locals := 0 } : Room)) (fun a U => a = #[(.ref b25)] ∧ Z.Warmed39 U.vm ∧ U.heap = h0) (fun _ _ _ _ _ => True) (fun _ U o U' => ∃ v L, o = .returned v ∧ (PQ (some (.int (0 : Int32))) h0 n0) v U'.heap L ∧ FrameEnd U o U' L ({ frames := 0, cells := 0, slots := 0, locals := 0 } : Room).cells ({ frames := 0, cells := 0, slots := 0, locals := 0 } : Room).slots) := by
  refine MetFree.of_bodySF (plainFor_of_name own_pn1) hisR ?_
  intro p e s m args below meth c s₁ Bd hml0 hP hK
  obtain ⟨rfl, hZ, hh⟩ := hP
  have hx := Bd.exec
  have hby := Bd.bytes
  have hml : c.maxLocals = 1 := hml0
  have hown : s.vm.findClass "com/example/hangslot/hangslot/LockStore$Acquisition" = some m.cls := findClass_of_methodNamed Bd.named
  have hnm := (name_of_methodNamed Bd.named Bd.method).1
  have X0 : Stand p l e ({ frames := 0, cells := 0, slots := 0, locals := 0 } : Room) s m #[(.ref b25)] below meth c s₁ [] 0 0 := Stand.of_body Bd
  have e0 : s₁.heap = h0 := by rw [← hh, Bd.state]; rfl
  have N0 := Fr.nil n0
  have pre0 : ∀ t, Steps p.tables e below (s₁.setTop (mkF m 0 #[.val (.ref b25)] [])) t → Steps p.tables e below (s₁.setTop (entryFrame m #[(.ref b25)] 1)) t := fun t k => castTop (own_ef_rm3 m p1 p2 A K b25) k
  have KK0 : Keep h0 h0 [] := Keep.refl _ _
  obtain ⟨T35, X35, e35, st35⟩ := getF X0 hx hZ hown (host := "") (Or.inl (hw _ (List.mem_of_getElem? (i := 15) rfl))) Via.refl e0 G_F_b25_com_example_hangslot_hangslot_LockStore_Acquisition_fencingToken (g := (mkF m 1 #[.val (.ref b25)] [(.ref b25)])) rfl rfl (hb hby own_d_prog_8_method_4_code_1)
  obtain ⟨fs, hr, hrun, hended, hW, hsame⟩ := X35.leave (v := some (.int (0 : Int32))) (fun h => by rw [Bd.returns] at h; cases h)
  refine ⟨_, _, pre0 _ ?_, hrun, hended, _, _, rfl, ?_, ⟨_, rfl⟩, hW, hsame.mono (by decide) (by decide)⟩
  · show Steps p.tables e below (s₁.setTop (mkF m 0 #[.val (.ref b25)] [])) _
    refine XS.aloadN X0.here hx rfl (hb hby own_d_prog_8_method_4_code_0) rfl rfl ?_
    show Steps p.tables e below (s₁.setTop (mkF m 1 #[.val (.ref b25)] [(.ref b25)])) _
    refine st35 _ ?_
    show Steps p.tables e below (T35.setTop (mkF m 4 #[.val (.ref b25)] [(.long (p1 &&& (9223372036854775807 : Int64)))])) _
    refine XS.lconst X35.here hx rfl (hb hby own_d_prog_8_method_4_code_4) ?_
    show Steps p.tables e below (T35.setTop (mkF m 5 #[.val (.ref b25)] [(.long (0 : Int64)), (.long (p1 &&& (9223372036854775807 : Int64)))])) _
    refine XS.lcmp X35.here hx rfl (hb hby own_d_prog_8_method_4_code_5) rfl ?_
    show Steps p.tables e below (T35.setTop (mkF m 6 #[.val (.ref b25)] [(.int (lcmpW (p1 &&& (9223372036854775807 : Int64)) (0 : Int64)))])) _
    refine XS.ifYes X35.here hx rfl (pc0 := 6) (pc' := 13) rfl (hb hby own_d_prog_8_method_4_code_6) rfl ((if0 _ _).trans (flt (own_npos hp_24)).2.2.2) (by decide) (by decide) ?_
    show Steps p.tables e below (T35.setTop (mkF m 13 #[.val (.ref b25)] [])) _
    refine XS.iconst X35.here hx rfl (hb hby own_d_prog_8_method_4_code_13) ?_
    show Steps p.tables e below (T35.setTop (mkF m 14 #[.val (.ref b25)] [(.int (0 : Int32))])) _
    exact retN X35 hx (t := .boolean) Bd.returns (by simp) (hb hby own_d_prog_8_method_4_code_14) hr
  · show PQ (some (.int (0 : Int32))) h0 n0 _ T35.heap _
    rw [e35]
    exact ⟨rfl, N0, rfl⟩
def Q_rm5 (Z : State) (p1 : Int64) (p2 : Int64) (A : Nat → Addr) (K : Nat → ClassId) (b37 : Addr) (h0 : Heap) (n0 : Nat) (v : Option Value) (h : Heap) (L : List Loc) : Prop := v = none ∧ Fr n0 L ∧ Keep h0 h [b37] ∧ (Exa Z h b37 "com/example/hangslot/hangslot/LockStore$Acquisition") ∧ (Fld Z h b37 "com/example/hangslot/hangslot/LockStore$Acquisition" "fencingToken" "J" (.long (0 : Int64))) ∧ (Fld Z h b37 "com/example/hangslot/hangslot/LockStore$Acquisition" "millisUntilFree" "J" (.long p2))
theorem own_ef_rm5 (m : MethodId) (p1 : Int64) (p2 : Int64) (A : Nat → Addr) (K : Nat → ClassId)  (b37 : Addr) : entryFrame m #[(.ref b37), (.long (0 : Int64)), (.long p2)] 5 = mkF m 0 #[.val (.ref b37), .val (.long (0 : Int64)), .second, .val (.long p2), .second] [] := by first | (simp [entryFrame, mkF, argsToLocals, Value.category, maxLocals]; done) | rfl
set_option maxRecDepth 65536 in
set_option maxHeartbeats 40000000 in
theorem rm5 (l : Launch) (Z : State) (a0 : Array Value) (hw : ∀ d ∈ tables_1, d.before a0 Z = true) (ws : List Jvm.Cond) (h0 : Heap) (n0 : Nat) (p1 : Int64) (p2 : Int64) (A : Nat → Addr) (K : Nat → ClassId)  (b37 : Addr) (EN : own_St Z A K) (OL0 : Old Z n0 h0) (G_F_b37_com_example_hangslot_hangslot_LockStore_Acquisition_fencingToken : Fld Z h0 b37 "com/example/hangslot/hangslot/LockStore$Acquisition" "fencingToken" "J" (.long (0 : Int64))) (G_E_b37 : Exa Z h0 b37 "com/example/hangslot/hangslot/LockStore$Acquisition") (G_F_b37_com_example_hangslot_hangslot_LockStore_Acquisition_millisUntilFree : Fld Z h0 b37 "com/example/hangslot/hangslot/LockStore$Acquisition" "millisUntilFree" "J" (.long (0 : Int64))) (gn_b37 : n0 ≤ b37) :
    MetFree l (⟨"com/example/hangslot/hangslot/LockStore$Acquisition", "<init>", "(JJ)V"⟩ : MethodName) (head1 (Jvm.Cond.code (⟨"com/example/hangslot/hangslot/LockStore$Acquisition", "<init>", "(JJ)V"⟩ : MethodName) prog_8_method_1_code 5 none :: ws) ({ frames := 2, cells := 0, slots := 0, locals := 24 } : Room)) (fun a U => a = #[(.ref b37), (.long (0 : Int64)), (.long p2)] ∧ Z.Warmed39 U.vm ∧ U.heap = h0) (fun _ _ _ _ _ => True) (fun _ U o U' => ∃ v L, o = .returned v ∧ Q_rm5 Z p1 p2 A K b37 h0 n0 v U'.heap L ∧ FrameEnd U o U' L ({ frames := 2, cells := 0, slots := 0, locals := 24 } : Room).cells ({ frames := 2, cells := 0, slots := 0, locals := 24 } : Room).slots) := by
  refine MetFree.of_bodySF (plainFor_of_name own_pn1) hisR ?_
  intro p e s m args below meth c s₁ Bd hml0 hP hK
  obtain ⟨rfl, hZ, hh⟩ := hP
  have hx := Bd.exec
  have hby := Bd.bytes
  have hml : c.maxLocals = 5 := hml0
  have hown : s.vm.findClass "com/example/hangslot/hangslot/LockStore$Acquisition" = some m.cls := findClass_of_methodNamed Bd.named
  have hnm := (name_of_methodNamed Bd.named Bd.method).1
  have X0 : Stand p l e ({ frames := 2, cells := 0, slots := 0, locals := 24 } : Room) s m #[(.ref b37), (.long (0 : Int64)), (.long p2)] below meth c s₁ [] 0 0 := Stand.of_body Bd
  have e0 : s₁.heap = h0 := by rw [← hh, Bd.state]; rfl
  have N0 := Fr.nil n0
  have pre0 : ∀ t, Steps p.tables e below (s₁.setTop (mkF m 0 #[.val (.ref b37), .val (.long (0 : Int64)), .second, .val (.long p2), .second] [])) t → Steps p.tables e below (s₁.setTop (entryFrame m #[(.ref b37), (.long (0 : Int64)), (.long p2)] 5)) t := fun t k => castTop (own_ef_rm5 m p1 p2 A K b37) k
  have KK0 : Keep h0 h0 [b37] := Keep.refl _ _
  obtain ⟨_, _, ⟨T38, L38, k38, n38⟩, -, X38, ⟨Lc38, hQ38, l38, y38, z38⟩, st38⟩ := X0.specialBack hx (y := (⟨"java/lang/Record", "<init>", "()V"⟩ : MethodName)) rfl hown (mvT hZ (hw _ (List.mem_of_getElem? (i := 7) rfl))) (mvT hZ (hw _ (List.mem_of_getElem? (i := 8) rfl))) (mvT hZ (hw _ (List.mem_of_getElem? (i := 11) rfl))) (by decide) (backOf (W := 0) (rm2 l Z a0 hw [] h0 n0 p1 p2 A K b37 EN OL0) hZ (hw _ (List.mem_of_getElem? (i := 11) rfl)) (hw _ (List.mem_of_getElem? (i := 10) rfl)) (by decide) (by decide)) (g := (mkF m 1 #[.val (.ref b37), .val (.long (0 : Int64)), .second, .val (.long p2), .second] [(.ref b37)])) rfl (by rw [hml]; rfl) (Steps.refl _) (a := b37) (argsL := []) (rest := []) (lenOf own_pd0 rfl) rfl (by show 2 * 0 + _ ≤ _; exact Nat.le_of_eq rfl) (hb hby own_d_prog_8_method_1_code_1) (fun _ _ => ⟨rfl, e0, (by decide : 0 + 0 ≤ _), (by decide : 0 + 0 ≤ _)⟩)
  dsimp only [Pt.U, Pt.locs, Pt.cells, Pt.slots] at X38 l38 y38 z38 st38 hQ38
  subst l38 y38 z38
  obtain ⟨rfl, N38q, e38⟩ := hQ38
  have N38 := Fr.app N0 N38q
  obtain ⟨T39, h39, X39, e39, W39, st39⟩ := putF X38 hx hZ hown (host := "") (Or.inl (hw _ (List.mem_of_getElem? (i := 15) rfl))) Via.refl e38 G_F_b37_com_example_hangslot_hangslot_LockStore_Acquisition_fencingToken G_E_b37 (Or.inr ⟨(hw _ (List.mem_of_getElem? (i := 16) rfl)), rfl, hnm⟩) (hw _ (List.mem_of_getElem? (i := 2) rfl)) (ty := .long) (by decide) rfl rfl (g := (mkF m 6 #[.val (.ref b37), .val (.long (0 : Int64)), .second, .val (.long p2), .second] [(.long (0 : Int64)), (.ref b37)])) rfl rfl (hb hby own_d_prog_8_method_1_code_6)
  have NF39 := Fr.snoc X39 N38 gn_b37
  have OL39 : Old Z n0 h39 := OL0.wr W39 gn_b37
  have KK39 : Keep h0 h39 [b37] := KK0.wr W39 (Or.inl (List.mem_of_getElem? (i := 0) rfl))
  have Fw39 : Fld Z h39 b37 "com/example/hangslot/hangslot/LockStore$Acquisition" "fencingToken" "J" (.long (0 : Int64)) := G_F_b37_com_example_hangslot_hangslot_LockStore_Acquisition_fencingToken.same W39
  have fx40 : Fld Z h39 b37 "com/example/hangslot/hangslot/LockStore$Acquisition" "millisUntilFree" "J" (.long (0 : Int64)) := (G_F_b37_com_example_hangslot_hangslot_LockStore_Acquisition_millisUntilFree.other W39 (Or.inr (slot_ne (Or.inr (hw _ (List.mem_of_getElem? (i := 18) rfl))) (Or.inr (hw _ (List.mem_of_getElem? (i := 16) rfl))) (by decide) (t := .long) (t' := .long) (by decide) (by decide))))
  have fx41 : Exa Z h39 b37 "com/example/hangslot/hangslot/LockStore$Acquisition" := (G_E_b37.wr W39)
  obtain ⟨T42, h42, X42, e42, W42, st42⟩ := putF X39 hx hZ hown (host := "") (Or.inl (hw _ (List.mem_of_getElem? (i := 17) rfl))) Via.refl e39 fx40 fx41 (Or.inr ⟨(hw _ (List.mem_of_getElem? (i := 18) rfl)), rfl, hnm⟩) (hw _ (List.mem_of_getElem? (i := 2) rfl)) (ty := .long) (by decide) rfl rfl (g := (mkF m 11 #[.val (.ref b37), .val (.long (0 : Int64)), .second, .val (.long p2), .second] [(.long p2), (.ref b37)])) rfl rfl (hb hby own_d_prog_8_method_1_code_11)
  have NF42 := Fr.snoc X42 NF39 gn_b37
  have OL42 : Old Z n0 h42 := OL39.wr W42 gn_b37
  have KK42 : Keep h0 h42 [b37] := KK39.wr W42 (Or.inl (List.mem_of_getElem? (i := 0) rfl))
  have Fw42 : Fld Z h42 b37 "com/example/hangslot/hangslot/LockStore$Acquisition" "millisUntilFree" "J" (.long p2) := fx40.same W42
  have fx43 : Exa Z h42 b37 "com/example/hangslot/hangslot/LockStore$Acquisition" := (fx41.wr W42)
  have fx44 : Fld Z h42 b37 "com/example/hangslot/hangslot/LockStore$Acquisition" "fencingToken" "J" (.long (0 : Int64)) := (Fw39.other W42 (Or.inr (slot_ne (Or.inr (hw _ (List.mem_of_getElem? (i := 16) rfl))) (Or.inr (hw _ (List.mem_of_getElem? (i := 18) rfl))) (by decide) (t := .long) (t' := .long) (by decide) (by decide))))
  obtain ⟨fs, hr, hrun, hended, hW, hsame⟩ := X42.leave (v := none) (fun _ => rfl)
  refine ⟨_, _, pre0 _ ?_, hrun, hended, _, _, rfl, ?_, ⟨_, rfl⟩, hW, hsame.mono (by decide) (by decide)⟩
  · show Steps p.tables e below (s₁.setTop (mkF m 0 #[.val (.ref b37), .val (.long (0 : Int64)), .second, .val (.long p2), .second] [])) _
    refine XS.aloadN X0.here hx rfl (hb hby own_d_prog_8_method_1_code_0) rfl rfl ?_
    show Steps p.tables e below (s₁.setTop (mkF m 1 #[.val (.ref b37), .val (.long (0 : Int64)), .second, .val (.long p2), .second] [(.ref b37)])) _
    refine st38.trans ?_
    show Steps p.tables e below (T38.setTop (mkF m 4 #[.val (.ref b37), .val (.long (0 : Int64)), .second, .val (.long p2), .second] [])) _
    refine XS.aloadN X38.here hx rfl (hb hby own_d_prog_8_method_1_code_4) rfl rfl ?_
    show Steps p.tables e below (T38.setTop (mkF m 5 #[.val (.ref b37), .val (.long (0 : Int64)), .second, .val (.long p2), .second] [(.ref b37)])) _
    refine XS.lloadN X38.here hx rfl (hb hby own_d_prog_8_method_1_code_5) rfl ?_
    show Steps p.tables e below (T38.setTop (mkF m 6 #[.val (.ref b37), .val (.long (0 : Int64)), .second, .val (.long p2), .second] [(.long (0 : Int64)), (.ref b37)])) _
    refine st39 _ ?_
    show Steps p.tables e below (T39.setTop (mkF m 9 #[.val (.ref b37), .val (.long (0 : Int64)), .second, .val (.long p2), .second] [])) _
    refine XS.aloadN X39.here hx rfl (hb hby own_d_prog_8_method_1_code_9) rfl rfl ?_
    show Steps p.tables e below (T39.setTop (mkF m 10 #[.val (.ref b37), .val (.long (0 : Int64)), .second, .val (.long p2), .second] [(.ref b37)])) _
    refine XS.lloadN X39.here hx rfl (hb hby own_d_prog_8_method_1_code_10) rfl ?_
    show Steps p.tables e below (T39.setTop (mkF m 11 #[.val (.ref b37), .val (.long (0 : Int64)), .second, .val (.long p2), .second] [(.long p2), (.ref b37)])) _
    refine st42 _ ?_
    show Steps p.tables e below (T42.setTop (mkF m 14 #[.val (.ref b37), .val (.long (0 : Int64)), .second, .val (.long p2), .second] [])) _
    exact X42.returnOut hx Bd.returns (hb hby own_d_prog_8_method_1_code_14) hr
  · show Q_rm5 Z p1 p2 A K b37 h0 n0 _ T42.heap _
    rw [e42]
    exact ⟨rfl, NF42, KK42, fx43, fx44, Fw42⟩
def Q_rm4 (Z : State) (p1 : Int64) (p2 : Int64) (A : Nat → Addr) (K : Nat → ClassId) (b25 : Addr) (h0 : Heap) (n0 : Nat) (v : Option Value) (h : Heap) (L : List Loc) : Prop := ∃ b37 : Addr, v = (some (.ref b37)) ∧ Fr n0 L ∧ Keep h0 h [] ∧ (n0 ≤ b37 ∧ h0.size ≤ b37) ∧ (Exa Z h b37 "com/example/hangslot/hangslot/LockStore$Acquisition") ∧ (Fld Z h b37 "com/example/hangslot/hangslot/LockStore$Acquisition" "fencingToken" "J" (.long (0 : Int64))) ∧ (Fld Z h b37 "com/example/hangslot/hangslot/LockStore$Acquisition" "millisUntilFree" "J" (.long p2))
theorem own_d_prog_8_method_3_code_0 : decode prog_8_method_3_code 0 = .ok (.new 8, 3) := by decide +kernel
theorem own_d_prog_8_method_3_code_3 : decode prog_8_method_3_code 3 = .ok (.dup, 1) := by decide +kernel
theorem own_d_prog_8_method_3_code_4 : decode prog_8_method_3_code 4 = .ok (.lconst 0, 1) := by decide +kernel
theorem own_d_prog_8_method_3_code_5 : decode prog_8_method_3_code 5 = .ok (.lload_n 0, 1) := by decide +kernel
theorem own_d_prog_8_method_3_code_6 : decode prog_8_method_3_code 6 = .ok (.invokespecial 18, 3) := by decide +kernel
theorem own_d_prog_8_method_3_code_9 : decode prog_8_method_3_code 9 = .ok (.areturn, 1) := by decide +kernel
theorem own_ef_rm4 (m : MethodId) (p1 : Int64) (p2 : Int64) (A : Nat → Addr) (K : Nat → ClassId)  (b25 : Addr) : entryFrame m #[(.long p2)] 2 = mkF m 0 #[.val (.long p2), .second] [] := by first | (simp [entryFrame, mkF, argsToLocals, Value.category, maxLocals]; done) | rfl
set_option maxRecDepth 65536 in
set_option maxHeartbeats 40000000 in
theorem rm4 (l : Launch) (Z : State) (a0 : Array Value) (hw : ∀ d ∈ tables_1, d.before a0 Z = true) (ws : List Jvm.Cond) (h0 : Heap) (n0 : Nat) (p1 : Int64) (p2 : Int64) (A : Nat → Addr) (K : Nat → ClassId)  (b25 : Addr) (EN : own_St Z A K) (OL0 : Old Z n0 h0) (G_E_b25 : Exa Z h0 b25 "com/example/hangslot/hangslot/LockStore$Acquisition") :
    MetFree l (⟨"com/example/hangslot/hangslot/LockStore$Acquisition", "refused", "(J)Lcom/example/hangslot/hangslot/LockStore$Acquisition;"⟩ : MethodName) (head1 (Jvm.Cond.code (⟨"com/example/hangslot/hangslot/LockStore$Acquisition", "refused", "(J)Lcom/example/hangslot/hangslot/LockStore$Acquisition;"⟩ : MethodName) prog_8_method_3_code 2 (some (.object "com/example/hangslot/hangslot/LockStore$Acquisition")) :: ws) ({ frames := 3, cells := 1, slots := 2, locals := 41 } : Room)) (fun a U => a = #[(.long p2)] ∧ Z.Warmed39 U.vm ∧ U.heap = h0) (fun _ _ _ _ _ => True) (fun _ U o U' => ∃ v L, o = .returned v ∧ Q_rm4 Z p1 p2 A K b25 h0 n0 v U'.heap L ∧ FrameEnd U o U' L ({ frames := 3, cells := 1, slots := 2, locals := 41 } : Room).cells ({ frames := 3, cells := 1, slots := 2, locals := 41 } : Room).slots) := by
  refine MetFree.of_bodySF (plainFor_of_name own_pn1) hisR ?_
  intro p e s m args below meth c s₁ Bd hml0 hP hK
  obtain ⟨rfl, hZ, hh⟩ := hP
  have hx := Bd.exec
  have hby := Bd.bytes
  have hml : c.maxLocals = 2 := hml0
  have hown : s.vm.findClass "com/example/hangslot/hangslot/LockStore$Acquisition" = some m.cls := findClass_of_methodNamed Bd.named
  have hnm := (name_of_methodNamed Bd.named Bd.method).1
  have X0 : Stand p l e ({ frames := 3, cells := 1, slots := 2, locals := 41 } : Room) s m #[(.long p2)] below meth c s₁ [] 0 0 := Stand.of_body Bd
  have e0 : s₁.heap = h0 := by rw [← hh, Bd.state]; rfl
  have N0 := Fr.nil n0
  have pre0 : ∀ t, Steps p.tables e below (s₁.setTop (mkF m 0 #[.val (.long p2), .second] [])) t → Steps p.tables e below (s₁.setTop (entryFrame m #[(.long p2)] 2)) t := fun t k => castTop (own_ef_rm4 m p1 p2 A K b25) k
  have KK0 : Keep h0 h0 [] := Keep.refl _ _
  obtain ⟨T37, h37, X37, e37, E37, A37, D37, -, st37⟩ := newO X0 hx hZ hown (hw _ (List.mem_of_getElem? (i := 27) rfl)) (hw _ (List.mem_of_getElem? (i := 2) rfl)) (hw _ (List.mem_of_getElem? (i := 3) rfl)) e0 (g := (mkF m 0 #[.val (.long p2), .second] [])) rfl (hb hby own_d_prog_8_method_3_code_0) (by decide) (by decide)
  obtain ⟨b37, g37⟩ : ∃ z, z = h0.size := ⟨_, rfl⟩
  rw [← g37] at A37 D37 st37
  have gn_b37 : n0 ≤ b37 := Nat.le_trans (OL0.1 ▸ OL0.2.1) (Nat.le_of_eq g37.symm)
  have sz_b37 : h0.size ≤ b37 := Nat.le_trans KK0.1 (Nat.le_of_eq g37.symm)
  have lt_b25_b37 : b25 < b37 := Nat.lt_of_lt_of_le G_E_b25.lt (Nat.le_of_eq g37.symm)
  have OL37 : Old Z n0 h37 := OL0.ext E37
  have KK37 : Keep h0 h37 [] := KK0.ext E37
  have F37_fencingToken : Fld Z h37 b37 "com/example/hangslot/hangslot/LockStore$Acquisition" "fencingToken" "J" (.long (0 : Int64)) := D37 (Or.inr (hw _ (List.mem_of_getElem? (i := 16) rfl))) (ty := .long) (by decide)
  have F37_millisUntilFree : Fld Z h37 b37 "com/example/hangslot/hangslot/LockStore$Acquisition" "millisUntilFree" "J" (.long (0 : Int64)) := D37 (Or.inr (hw _ (List.mem_of_getElem? (i := 18) rfl))) (ty := .long) (by decide)
  obtain ⟨_, _, ⟨T45, L45, k45, n45⟩, -, X45, ⟨Lc45, hQ45, l45, y45, z45⟩, st45⟩ := X37.specialBack hx (y := (⟨"com/example/hangslot/hangslot/LockStore$Acquisition", "<init>", "(JJ)V"⟩ : MethodName)) rfl hown (mvT hZ (hw _ (List.mem_of_getElem? (i := 28) rfl))) (mvT hZ (hw _ (List.mem_of_getElem? (i := 5) rfl))) (mvT hZ (hw _ (List.mem_of_getElem? (i := 6) rfl))) (by decide) (backOf (W := 1) (rm5 l Z a0 hw [] h37 n0 p1 p2 A K b37 EN OL37 F37_fencingToken A37 F37_millisUntilFree gn_b37) hZ (hw _ (List.mem_of_getElem? (i := 6) rfl)) (hw _ (List.mem_of_getElem? (i := 3) rfl)) (by decide) (by decide)) (g := (mkF m 6 #[.val (.long p2), .second] [(.long p2), (.long (0 : Int64)), (.ref b37), (.ref b37)])) rfl (by rw [hml]; rfl) (Steps.refl _) (a := b37) (argsL := [(.long (0 : Int64)), (.long p2)]) (rest := [(.ref b37)]) (lenOf own_pd1 rfl) rfl (by show 2 * 0 + _ ≤ _; exact Nat.le_of_eq rfl) (hb hby own_d_prog_8_method_3_code_6) (fun _ _ => ⟨rfl, e37, (by decide : 1 + 0 ≤ _), (by decide : 2 + 0 ≤ _)⟩)
  dsimp only [Pt.U, Pt.locs, Pt.cells, Pt.slots] at X45 l45 y45 z45 st45 hQ45
  subst l45 y45 z45
  obtain ⟨rfl, N45q, K45c, f45_0, f45_1, f45_2⟩ := hQ45
  have N45 := Fr.app N0 N45q
  have OL45 : Old Z n0 T45.heap := OL37.keep K45c (allS gn_b37 all0)
  have KK45 : Keep h0 T45.heap [] := KK37.trans K45c (allS (Or.inr sz_b37) all0)
  obtain ⟨fs, hr, hrun, hended, hW, hsame⟩ := X45.leave (v := some (.ref b37)) (fun h => by rw [Bd.returns] at h; cases h)
  refine ⟨_, _, pre0 _ ?_, hrun, hended, _, _, rfl, ?_, ⟨_, rfl⟩, hW, hsame.mono (by decide) (by decide)⟩
  · show Steps p.tables e below (s₁.setTop (mkF m 0 #[.val (.long p2), .second] [])) _
    refine st37 _ ?_
    show Steps p.tables e below (T37.setTop (mkF m 3 #[.val (.long p2), .second] [(.ref b37)])) _
    refine XS.dup X37.here hx rfl (hb hby own_d_prog_8_method_3_code_3) rfl rfl ?_
    show Steps p.tables e below (T37.setTop (mkF m 4 #[.val (.long p2), .second] [(.ref b37), (.ref b37)])) _
    refine XS.lconst X37.here hx rfl (hb hby own_d_prog_8_method_3_code_4) ?_
    show Steps p.tables e below (T37.setTop (mkF m 5 #[.val (.long p2), .second] [(.long (0 : Int64)), (.ref b37), (.ref b37)])) _
    refine XS.lloadN X37.here hx rfl (hb hby own_d_prog_8_method_3_code_5) rfl ?_
    show Steps p.tables e below (T37.setTop (mkF m 6 #[.val (.long p2), .second] [(.long p2), (.long (0 : Int64)), (.ref b37), (.ref b37)])) _
    refine st45.trans ?_
    show Steps p.tables e below (T45.setTop (mkF m 9 #[.val (.long p2), .second] [(.ref b37)])) _
    exact retOut X45 hx Bd.returns rfl (Or.inr (Or.inr (Or.inr (Or.inr ⟨rfl, rfl, rfl⟩)))) (hb hby own_d_prog_8_method_3_code_9) hr
  · show Q_rm4 Z p1 p2 A K b25 h0 n0 _ T45.heap _
    exact ⟨b37, rfl, N45, KK45, ⟨gn_b37, sz_b37⟩, f45_0, f45_1, f45_2⟩
theorem own_ef_rm6 (m : MethodId) (p1 : Int64) (p2 : Int64) (A : Nat → Addr) (K : Nat → ClassId)  (b46_b37 : Addr) : entryFrame m #[(.ref b46_b37)] 1 = mkF m 0 #[.val (.ref b46_b37)] [] := by first | (simp [entryFrame, mkF, argsToLocals, Value.category, maxLocals]; done) | rfl
set_option maxRecDepth 65536 in
set_option maxHeartbeats 40000000 in
theorem rm6 (l : Launch) (Z : State) (a0 : Array Value) (hw : ∀ d ∈ tables_1, d.before a0 Z = true) (ws : List Jvm.Cond) (h0 : Heap) (n0 : Nat) (p1 : Int64) (p2 : Int64) (A : Nat → Addr) (K : Nat → ClassId)  (b46_b37 : Addr) (EN : own_St Z A K) (OL0 : Old Z n0 h0) (G_F_b46_b37_com_example_hangslot_hangslot_LockStore_Acquisition_fencingToken : Fld Z h0 b46_b37 "com/example/hangslot/hangslot/LockStore$Acquisition" "fencingToken" "J" (.long (0 : Int64))) :
    MetFree l (⟨"com/example/hangslot/hangslot/LockStore$Acquisition", "taken", "()Z"⟩ : MethodName) (head1 (Jvm.Cond.code (⟨"com/example/hangslot/hangslot/LockStore$Acquisition", "taken", "()Z"⟩ : MethodName) prog_8_method_4_code 1 (some .boolean) :: ws) ({ frames := 0, cells := 0, slots := 0, locals := 0 } : Room)) (fun a U => a = #[(.ref b46_b37)] ∧ Z.Warmed39 U.vm ∧ U.heap = h0) (fun _ _ _ _ _ => True) (fun _ U o U' => ∃ v L, o = .returned v ∧ (PQ (some (.int (0 : Int32))) h0 n0) v U'.heap L ∧ FrameEnd U o U' L ({ frames := 0, cells := 0, slots := 0, locals := 0 } : Room).cells ({ frames := 0, cells := 0, slots := 0, locals := 0 } : Room).slots) := by
  refine MetFree.of_bodySF (plainFor_of_name own_pn1) hisR ?_
  intro p e s m args below meth c s₁ Bd hml0 hP hK
  obtain ⟨rfl, hZ, hh⟩ := hP
  have hx := Bd.exec
  have hby := Bd.bytes
  have hml : c.maxLocals = 1 := hml0
  have hown : s.vm.findClass "com/example/hangslot/hangslot/LockStore$Acquisition" = some m.cls := findClass_of_methodNamed Bd.named
  have hnm := (name_of_methodNamed Bd.named Bd.method).1
  have X0 : Stand p l e ({ frames := 0, cells := 0, slots := 0, locals := 0 } : Room) s m #[(.ref b46_b37)] below meth c s₁ [] 0 0 := Stand.of_body Bd
  have e0 : s₁.heap = h0 := by rw [← hh, Bd.state]; rfl
  have N0 := Fr.nil n0
  have pre0 : ∀ t, Steps p.tables e below (s₁.setTop (mkF m 0 #[.val (.ref b46_b37)] [])) t → Steps p.tables e below (s₁.setTop (entryFrame m #[(.ref b46_b37)] 1)) t := fun t k => castTop (own_ef_rm6 m p1 p2 A K b46_b37) k
  have KK0 : Keep h0 h0 [] := Keep.refl _ _
  obtain ⟨T47, X47, e47, st47⟩ := getF X0 hx hZ hown (host := "") (Or.inl (hw _ (List.mem_of_getElem? (i := 15) rfl))) Via.refl e0 G_F_b46_b37_com_example_hangslot_hangslot_LockStore_Acquisition_fencingToken (g := (mkF m 1 #[.val (.ref b46_b37)] [(.ref b46_b37)])) rfl rfl (hb hby own_d_prog_8_method_4_code_1)
  obtain ⟨fs, hr, hrun, hended, hW, hsame⟩ := X47.leave (v := some (.int (0 : Int32))) (fun h => by rw [Bd.returns] at h; cases h)
  refine ⟨_, _, pre0 _ ?_, hrun, hended, _, _, rfl, ?_, ⟨_, rfl⟩, hW, hsame.mono (by decide) (by decide)⟩
  · show Steps p.tables e below (s₁.setTop (mkF m 0 #[.val (.ref b46_b37)] [])) _
    refine XS.aloadN X0.here hx rfl (hb hby own_d_prog_8_method_4_code_0) rfl rfl ?_
    show Steps p.tables e below (s₁.setTop (mkF m 1 #[.val (.ref b46_b37)] [(.ref b46_b37)])) _
    refine st47 _ ?_
    show Steps p.tables e below (T47.setTop (mkF m 4 #[.val (.ref b46_b37)] [(.long (0 : Int64))])) _
    refine XS.lconst X47.here hx rfl (hb hby own_d_prog_8_method_4_code_4) ?_
    show Steps p.tables e below (T47.setTop (mkF m 5 #[.val (.ref b46_b37)] [(.long (0 : Int64)), (.long (0 : Int64))])) _
    refine XS.lcmp X47.here hx rfl (hb hby own_d_prog_8_method_4_code_5) rfl ?_
    show Steps p.tables e below (T47.setTop (mkF m 6 #[.val (.ref b46_b37)] [(.int (0 : Int32))])) _
    refine XS.ifYes X47.here hx rfl (pc0 := 6) (pc' := 13) rfl (hb hby own_d_prog_8_method_4_code_6) rfl ((if0 _ _).trans (flt (by decide : ¬ ((0 : Int32) < (0 : Int32)))).2.2.2) (by decide) (by decide) ?_
    show Steps p.tables e below (T47.setTop (mkF m 13 #[.val (.ref b46_b37)] [])) _
    refine XS.iconst X47.here hx rfl (hb hby own_d_prog_8_method_4_code_13) ?_
    show Steps p.tables e below (T47.setTop (mkF m 14 #[.val (.ref b46_b37)] [(.int (0 : Int32))])) _
    exact retN X47 hx (t := .boolean) Bd.returns (by simp) (hb hby own_d_prog_8_method_4_code_14) hr
  · show PQ (some (.int (0 : Int32))) h0 n0 _ T47.heap _
    rw [e47]
    exact ⟨rfl, N0, rfl⟩
theorem own_ef_rm7 (m : MethodId) (p1 : Int64) (p2 : Int64) (A : Nat → Addr) (K : Nat → ClassId)  : entryFrame m #[(.ref (A 0))] 1 = mkF m 0 #[.val (.ref (A 0))] [] := by first | (simp [entryFrame, mkF, argsToLocals, Value.category, maxLocals]; done) | rfl
set_option maxRecDepth 65536 in
set_option maxHeartbeats 40000000 in
theorem rm7 (l : Launch) (Z : State) (a0 : Array Value) (hw : ∀ d ∈ tables_1, d.before a0 Z = true) (ws : List Jvm.Cond) (h0 : Heap) (n0 : Nat) (p1 : Int64) (p2 : Int64) (A : Nat → Addr) (K : Nat → ClassId)  (EN : own_St Z A K) (OL0 : Old Z n0 h0) :
    MetFree l (⟨"com/example/hangslot/hangslot/LockStore$Acquisition", "taken", "()Z"⟩ : MethodName) (head1 (Jvm.Cond.code (⟨"com/example/hangslot/hangslot/LockStore$Acquisition", "taken", "()Z"⟩ : MethodName) prog_8_method_4_code 1 (some .boolean) :: ws) ({ frames := 0, cells := 0, slots := 0, locals := 0 } : Room)) (fun a U => a = #[(.ref (A 0))] ∧ Z.Warmed39 U.vm ∧ U.heap = h0) (fun _ _ _ _ _ => True) (fun _ U o U' => ∃ v L, o = .returned v ∧ (PQ (some (.int (0 : Int32))) h0 n0) v U'.heap L ∧ FrameEnd U o U' L ({ frames := 0, cells := 0, slots := 0, locals := 0 } : Room).cells ({ frames := 0, cells := 0, slots := 0, locals := 0 } : Room).slots) := by
  refine MetFree.of_bodySF (plainFor_of_name own_pn1) hisR ?_
  intro p e s m args below meth c s₁ Bd hml0 hP hK
  obtain ⟨rfl, hZ, hh⟩ := hP
  have hx := Bd.exec
  have hby := Bd.bytes
  have hml : c.maxLocals = 1 := hml0
  have hown : s.vm.findClass "com/example/hangslot/hangslot/LockStore$Acquisition" = some m.cls := findClass_of_methodNamed Bd.named
  have hnm := (name_of_methodNamed Bd.named Bd.method).1
  have X0 : Stand p l e ({ frames := 0, cells := 0, slots := 0, locals := 0 } : Room) s m #[(.ref (A 0))] below meth c s₁ [] 0 0 := Stand.of_body Bd
  have e0 : s₁.heap = h0 := by rw [← hh, Bd.state]; rfl
  have N0 := Fr.nil n0
  have pre0 : ∀ t, Steps p.tables e below (s₁.setTop (mkF m 0 #[.val (.ref (A 0))] [])) t → Steps p.tables e below (s₁.setTop (entryFrame m #[(.ref (A 0))] 1)) t := fun t k => castTop (own_ef_rm7 m p1 p2 A K ) k
  have KK0 : Keep h0 h0 [] := Keep.refl _ _
  obtain ⟨T50, X50, e50, st50⟩ := getF X0 hx hZ hown (host := "") (Or.inl (hw _ (List.mem_of_getElem? (i := 15) rfl))) Via.refl e0 (EN.1.2.2.1.ext OL0.2) (g := (mkF m 1 #[.val (.ref (A 0))] [(.ref (A 0))])) rfl rfl (hb hby own_d_prog_8_method_4_code_1)
  obtain ⟨fs, hr, hrun, hended, hW, hsame⟩ := X50.leave (v := some (.int (0 : Int32))) (fun h => by rw [Bd.returns] at h; cases h)
  refine ⟨_, _, pre0 _ ?_, hrun, hended, _, _, rfl, ?_, ⟨_, rfl⟩, hW, hsame.mono (by decide) (by decide)⟩
  · show Steps p.tables e below (s₁.setTop (mkF m 0 #[.val (.ref (A 0))] [])) _
    refine XS.aloadN X0.here hx rfl (hb hby own_d_prog_8_method_4_code_0) rfl rfl ?_
    show Steps p.tables e below (s₁.setTop (mkF m 1 #[.val (.ref (A 0))] [(.ref (A 0))])) _
    refine st50 _ ?_
    show Steps p.tables e below (T50.setTop (mkF m 4 #[.val (.ref (A 0))] [(.long (0 : Int64))])) _
    refine XS.lconst X50.here hx rfl (hb hby own_d_prog_8_method_4_code_4) ?_
    show Steps p.tables e below (T50.setTop (mkF m 5 #[.val (.ref (A 0))] [(.long (0 : Int64)), (.long (0 : Int64))])) _
    refine XS.lcmp X50.here hx rfl (hb hby own_d_prog_8_method_4_code_5) rfl ?_
    show Steps p.tables e below (T50.setTop (mkF m 6 #[.val (.ref (A 0))] [(.int (0 : Int32))])) _
    refine XS.ifYes X50.here hx rfl (pc0 := 6) (pc' := 13) rfl (hb hby own_d_prog_8_method_4_code_6) rfl ((if0 _ _).trans (flt (by decide : ¬ ((0 : Int32) < (0 : Int32)))).2.2.2) (by decide) (by decide) ?_
    show Steps p.tables e below (T50.setTop (mkF m 13 #[.val (.ref (A 0))] [])) _
    refine XS.iconst X50.here hx rfl (hb hby own_d_prog_8_method_4_code_13) ?_
    show Steps p.tables e below (T50.setTop (mkF m 14 #[.val (.ref (A 0))] [(.int (0 : Int32))])) _
    exact retN X50 hx (t := .boolean) Bd.returns (by simp) (hb hby own_d_prog_8_method_4_code_14) hr
  · show PQ (some (.int (0 : Int32))) h0 n0 _ T50.heap _
    rw [e50]
    exact ⟨rfl, N0, rfl⟩
theorem own_d_prog_8_method_4_code_9 : decode prog_8_method_4_code 9 = .ok (.iconst 1, 1) := by decide +kernel
theorem own_d_prog_8_method_4_code_10 : decode prog_8_method_4_code 10 = .ok (.goto 4, 3) := by decide +kernel
theorem own_ef_rm8 (m : MethodId) (p1 : Int64) (p2 : Int64) (A : Nat → Addr) (K : Nat → ClassId)  (b52 : Addr) : entryFrame m #[(.ref b52)] 1 = mkF m 0 #[.val (.ref b52)] [] := by first | (simp [entryFrame, mkF, argsToLocals, Value.category, maxLocals]; done) | rfl
set_option maxRecDepth 65536 in
set_option maxHeartbeats 40000000 in
theorem rm8 (l : Launch) (Z : State) (a0 : Array Value) (hw : ∀ d ∈ tables_1, d.before a0 Z = true) (ws : List Jvm.Cond) (h0 : Heap) (n0 : Nat) (p1 : Int64) (p2 : Int64) (A : Nat → Addr) (K : Nat → ClassId)  (b52 : Addr) (EN : own_St Z A K) (OL0 : Old Z n0 h0) (G_F_b52_com_example_hangslot_hangslot_LockStore_Acquisition_fencingToken : Fld Z h0 b52 "com/example/hangslot/hangslot/LockStore$Acquisition" "fencingToken" "J" (.long (p1 &&& (9223372036854775807 : Int64)))) (hp_24 : ¬ ((lcmpW (p1 &&& (9223372036854775807 : Int64)) (0 : Int64)) = (0 : Int32))) :
    MetFree l (⟨"com/example/hangslot/hangslot/LockStore$Acquisition", "taken", "()Z"⟩ : MethodName) (head1 (Jvm.Cond.code (⟨"com/example/hangslot/hangslot/LockStore$Acquisition", "taken", "()Z"⟩ : MethodName) prog_8_method_4_code 1 (some .boolean) :: ws) ({ frames := 0, cells := 0, slots := 0, locals := 0 } : Room)) (fun a U => a = #[(.ref b52)] ∧ Z.Warmed39 U.vm ∧ U.heap = h0) (fun _ _ _ _ _ => True) (fun _ U o U' => ∃ v L, o = .returned v ∧ (PQ (some (.int (1 : Int32))) h0 n0) v U'.heap L ∧ FrameEnd U o U' L ({ frames := 0, cells := 0, slots := 0, locals := 0 } : Room).cells ({ frames := 0, cells := 0, slots := 0, locals := 0 } : Room).slots) := by
  refine MetFree.of_bodySF (plainFor_of_name own_pn1) hisR ?_
  intro p e s m args below meth c s₁ Bd hml0 hP hK
  obtain ⟨rfl, hZ, hh⟩ := hP
  have hx := Bd.exec
  have hby := Bd.bytes
  have hml : c.maxLocals = 1 := hml0
  have hown : s.vm.findClass "com/example/hangslot/hangslot/LockStore$Acquisition" = some m.cls := findClass_of_methodNamed Bd.named
  have hnm := (name_of_methodNamed Bd.named Bd.method).1
  have X0 : Stand p l e ({ frames := 0, cells := 0, slots := 0, locals := 0 } : Room) s m #[(.ref b52)] below meth c s₁ [] 0 0 := Stand.of_body Bd
  have e0 : s₁.heap = h0 := by rw [← hh, Bd.state]; rfl
  have N0 := Fr.nil n0
  have pre0 : ∀ t, Steps p.tables e below (s₁.setTop (mkF m 0 #[.val (.ref b52)] [])) t → Steps p.tables e below (s₁.setTop (entryFrame m #[(.ref b52)] 1)) t := fun t k => castTop (own_ef_rm8 m p1 p2 A K b52) k
  have KK0 : Keep h0 h0 [] := Keep.refl _ _
  obtain ⟨T54, X54, e54, st54⟩ := getF X0 hx hZ hown (host := "") (Or.inl (hw _ (List.mem_of_getElem? (i := 15) rfl))) Via.refl e0 G_F_b52_com_example_hangslot_hangslot_LockStore_Acquisition_fencingToken (g := (mkF m 1 #[.val (.ref b52)] [(.ref b52)])) rfl rfl (hb hby own_d_prog_8_method_4_code_1)
  obtain ⟨fs, hr, hrun, hended, hW, hsame⟩ := X54.leave (v := some (.int (1 : Int32))) (fun h => by rw [Bd.returns] at h; cases h)
  refine ⟨_, _, pre0 _ ?_, hrun, hended, _, _, rfl, ?_, ⟨_, rfl⟩, hW, hsame.mono (by decide) (by decide)⟩
  · show Steps p.tables e below (s₁.setTop (mkF m 0 #[.val (.ref b52)] [])) _
    refine XS.aloadN X0.here hx rfl (hb hby own_d_prog_8_method_4_code_0) rfl rfl ?_
    show Steps p.tables e below (s₁.setTop (mkF m 1 #[.val (.ref b52)] [(.ref b52)])) _
    refine st54 _ ?_
    show Steps p.tables e below (T54.setTop (mkF m 4 #[.val (.ref b52)] [(.long (p1 &&& (9223372036854775807 : Int64)))])) _
    refine XS.lconst X54.here hx rfl (hb hby own_d_prog_8_method_4_code_4) ?_
    show Steps p.tables e below (T54.setTop (mkF m 5 #[.val (.ref b52)] [(.long (0 : Int64)), (.long (p1 &&& (9223372036854775807 : Int64)))])) _
    refine XS.lcmp X54.here hx rfl (hb hby own_d_prog_8_method_4_code_5) rfl ?_
    show Steps p.tables e below (T54.setTop (mkF m 6 #[.val (.ref b52)] [(.int (lcmpW (p1 &&& (9223372036854775807 : Int64)) (0 : Int64)))])) _
    refine XS.ifNo X54.here hx rfl (hb hby own_d_prog_8_method_4_code_6) rfl ((if0 _ _).trans (tlt (own_pos hp_24)).2.2.2) ?_
    show Steps p.tables e below (T54.setTop (mkF m 9 #[.val (.ref b52)] [])) _
    refine XS.iconst X54.here hx rfl (hb hby own_d_prog_8_method_4_code_9) ?_
    show Steps p.tables e below (T54.setTop (mkF m 10 #[.val (.ref b52)] [(.int (1 : Int32))])) _
    refine XS.goto X54.here hx rfl (pc0 := 10) (pc' := 14) rfl (hb hby own_d_prog_8_method_4_code_10) (by decide) (by decide) ?_
    show Steps p.tables e below (T54.setTop (mkF m 14 #[.val (.ref b52)] [(.int (1 : Int32))])) _
    exact retN X54 hx (t := .boolean) Bd.returns (by simp) (hb hby own_d_prog_8_method_4_code_14) hr
  · show PQ (some (.int (1 : Int32))) h0 n0 _ T54.heap _
    rw [e54]
    exact ⟨rfl, N0, rfl⟩
def Q_rm9 (Z : State) (p1 : Int64) (p2 : Int64) (A : Nat → Addr) (K : Nat → ClassId) (b52 : Addr) (h0 : Heap) (n0 : Nat) (v : Option Value) (h : Heap) (L : List Loc) : Prop := ∃ b56 : Addr, v = (some (.ref b56)) ∧ Fr n0 L ∧ Keep h0 h [] ∧ (n0 ≤ b56 ∧ h0.size ≤ b56) ∧ (Exa Z h b56 "com/example/hangslot/hangslot/LockStore$Acquisition") ∧ (Fld Z h b56 "com/example/hangslot/hangslot/LockStore$Acquisition" "fencingToken" "J" (.long (0 : Int64))) ∧ (Fld Z h b56 "com/example/hangslot/hangslot/LockStore$Acquisition" "millisUntilFree" "J" (.long p2))
theorem own_ef_rm9 (m : MethodId) (p1 : Int64) (p2 : Int64) (A : Nat → Addr) (K : Nat → ClassId)  (b52 : Addr) : entryFrame m #[(.long p2)] 2 = mkF m 0 #[.val (.long p2), .second] [] := by first | (simp [entryFrame, mkF, argsToLocals, Value.category, maxLocals]; done) | rfl
set_option maxRecDepth 65536 in
set_option maxHeartbeats 40000000 in
theorem rm9 (l : Launch) (Z : State) (a0 : Array Value) (hw : ∀ d ∈ tables_1, d.before a0 Z = true) (ws : List Jvm.Cond) (h0 : Heap) (n0 : Nat) (p1 : Int64) (p2 : Int64) (A : Nat → Addr) (K : Nat → ClassId)  (b52 : Addr) (EN : own_St Z A K) (OL0 : Old Z n0 h0) (G_E_b52 : Exa Z h0 b52 "com/example/hangslot/hangslot/LockStore$Acquisition") :
    MetFree l (⟨"com/example/hangslot/hangslot/LockStore$Acquisition", "refused", "(J)Lcom/example/hangslot/hangslot/LockStore$Acquisition;"⟩ : MethodName) (head1 (Jvm.Cond.code (⟨"com/example/hangslot/hangslot/LockStore$Acquisition", "refused", "(J)Lcom/example/hangslot/hangslot/LockStore$Acquisition;"⟩ : MethodName) prog_8_method_3_code 2 (some (.object "com/example/hangslot/hangslot/LockStore$Acquisition")) :: ws) ({ frames := 3, cells := 1, slots := 2, locals := 41 } : Room)) (fun a U => a = #[(.long p2)] ∧ Z.Warmed39 U.vm ∧ U.heap = h0) (fun _ _ _ _ _ => True) (fun _ U o U' => ∃ v L, o = .returned v ∧ Q_rm9 Z p1 p2 A K b52 h0 n0 v U'.heap L ∧ FrameEnd U o U' L ({ frames := 3, cells := 1, slots := 2, locals := 41 } : Room).cells ({ frames := 3, cells := 1, slots := 2, locals := 41 } : Room).slots) := by
  refine MetFree.of_bodySF (plainFor_of_name own_pn1) hisR ?_
  intro p e s m args below meth c s₁ Bd hml0 hP hK
  obtain ⟨rfl, hZ, hh⟩ := hP
  have hx := Bd.exec
  have hby := Bd.bytes
  have hml : c.maxLocals = 2 := hml0
  have hown : s.vm.findClass "com/example/hangslot/hangslot/LockStore$Acquisition" = some m.cls := findClass_of_methodNamed Bd.named
  have hnm := (name_of_methodNamed Bd.named Bd.method).1
  have X0 : Stand p l e ({ frames := 3, cells := 1, slots := 2, locals := 41 } : Room) s m #[(.long p2)] below meth c s₁ [] 0 0 := Stand.of_body Bd
  have e0 : s₁.heap = h0 := by rw [← hh, Bd.state]; rfl
  have N0 := Fr.nil n0
  have pre0 : ∀ t, Steps p.tables e below (s₁.setTop (mkF m 0 #[.val (.long p2), .second] [])) t → Steps p.tables e below (s₁.setTop (entryFrame m #[(.long p2)] 2)) t := fun t k => castTop (own_ef_rm9 m p1 p2 A K b52) k
  have KK0 : Keep h0 h0 [] := Keep.refl _ _
  obtain ⟨T56, h56, X56, e56, E56, A56, D56, -, st56⟩ := newO X0 hx hZ hown (hw _ (List.mem_of_getElem? (i := 27) rfl)) (hw _ (List.mem_of_getElem? (i := 2) rfl)) (hw _ (List.mem_of_getElem? (i := 3) rfl)) e0 (g := (mkF m 0 #[.val (.long p2), .second] [])) rfl (hb hby own_d_prog_8_method_3_code_0) (by decide) (by decide)
  obtain ⟨b56, g56⟩ : ∃ z, z = h0.size := ⟨_, rfl⟩
  rw [← g56] at A56 D56 st56
  have gn_b56 : n0 ≤ b56 := Nat.le_trans (OL0.1 ▸ OL0.2.1) (Nat.le_of_eq g56.symm)
  have sz_b56 : h0.size ≤ b56 := Nat.le_trans KK0.1 (Nat.le_of_eq g56.symm)
  have lt_b52_b56 : b52 < b56 := Nat.lt_of_lt_of_le G_E_b52.lt (Nat.le_of_eq g56.symm)
  have OL56 : Old Z n0 h56 := OL0.ext E56
  have KK56 : Keep h0 h56 [] := KK0.ext E56
  have F56_fencingToken : Fld Z h56 b56 "com/example/hangslot/hangslot/LockStore$Acquisition" "fencingToken" "J" (.long (0 : Int64)) := D56 (Or.inr (hw _ (List.mem_of_getElem? (i := 16) rfl))) (ty := .long) (by decide)
  have F56_millisUntilFree : Fld Z h56 b56 "com/example/hangslot/hangslot/LockStore$Acquisition" "millisUntilFree" "J" (.long (0 : Int64)) := D56 (Or.inr (hw _ (List.mem_of_getElem? (i := 18) rfl))) (ty := .long) (by decide)
  obtain ⟨_, _, ⟨T57, L57, k57, n57⟩, -, X57, ⟨Lc57, hQ57, l57, y57, z57⟩, st57⟩ := X56.specialBack hx (y := (⟨"com/example/hangslot/hangslot/LockStore$Acquisition", "<init>", "(JJ)V"⟩ : MethodName)) rfl hown (mvT hZ (hw _ (List.mem_of_getElem? (i := 28) rfl))) (mvT hZ (hw _ (List.mem_of_getElem? (i := 5) rfl))) (mvT hZ (hw _ (List.mem_of_getElem? (i := 6) rfl))) (by decide) (backOf (W := 1) (rm5 l Z a0 hw [] h56 n0 p1 p2 A K b56 EN OL56 F56_fencingToken A56 F56_millisUntilFree gn_b56) hZ (hw _ (List.mem_of_getElem? (i := 6) rfl)) (hw _ (List.mem_of_getElem? (i := 3) rfl)) (by decide) (by decide)) (g := (mkF m 6 #[.val (.long p2), .second] [(.long p2), (.long (0 : Int64)), (.ref b56), (.ref b56)])) rfl (by rw [hml]; rfl) (Steps.refl _) (a := b56) (argsL := [(.long (0 : Int64)), (.long p2)]) (rest := [(.ref b56)]) (lenOf own_pd1 rfl) rfl (by show 2 * 0 + _ ≤ _; exact Nat.le_of_eq rfl) (hb hby own_d_prog_8_method_3_code_6) (fun _ _ => ⟨rfl, e56, (by decide : 1 + 0 ≤ _), (by decide : 2 + 0 ≤ _)⟩)
  dsimp only [Pt.U, Pt.locs, Pt.cells, Pt.slots] at X57 l57 y57 z57 st57 hQ57
  subst l57 y57 z57
  obtain ⟨rfl, N57q, K57c, f57_0, f57_1, f57_2⟩ := hQ57
  have N57 := Fr.app N0 N57q
  have OL57 : Old Z n0 T57.heap := OL56.keep K57c (allS gn_b56 all0)
  have KK57 : Keep h0 T57.heap [] := KK56.trans K57c (allS (Or.inr sz_b56) all0)
  obtain ⟨fs, hr, hrun, hended, hW, hsame⟩ := X57.leave (v := some (.ref b56)) (fun h => by rw [Bd.returns] at h; cases h)
  refine ⟨_, _, pre0 _ ?_, hrun, hended, _, _, rfl, ?_, ⟨_, rfl⟩, hW, hsame.mono (by decide) (by decide)⟩
  · show Steps p.tables e below (s₁.setTop (mkF m 0 #[.val (.long p2), .second] [])) _
    refine st56 _ ?_
    show Steps p.tables e below (T56.setTop (mkF m 3 #[.val (.long p2), .second] [(.ref b56)])) _
    refine XS.dup X56.here hx rfl (hb hby own_d_prog_8_method_3_code_3) rfl rfl ?_
    show Steps p.tables e below (T56.setTop (mkF m 4 #[.val (.long p2), .second] [(.ref b56), (.ref b56)])) _
    refine XS.lconst X56.here hx rfl (hb hby own_d_prog_8_method_3_code_4) ?_
    show Steps p.tables e below (T56.setTop (mkF m 5 #[.val (.long p2), .second] [(.long (0 : Int64)), (.ref b56), (.ref b56)])) _
    refine XS.lloadN X56.here hx rfl (hb hby own_d_prog_8_method_3_code_5) rfl ?_
    show Steps p.tables e below (T56.setTop (mkF m 6 #[.val (.long p2), .second] [(.long p2), (.long (0 : Int64)), (.ref b56), (.ref b56)])) _
    refine st57.trans ?_
    show Steps p.tables e below (T57.setTop (mkF m 9 #[.val (.long p2), .second] [(.ref b56)])) _
    exact retOut X57 hx Bd.returns rfl (Or.inr (Or.inr (Or.inr (Or.inr ⟨rfl, rfl, rfl⟩)))) (hb hby own_d_prog_8_method_3_code_9) hr
  · show Q_rm9 Z p1 p2 A K b52 h0 n0 _ T57.heap _
    exact ⟨b56, rfl, N57, KK57, ⟨gn_b56, sz_b56⟩, f57_0, f57_1, f57_2⟩
def Q_rm11 (Z : State) (p1 : Int64) (p2 : Int64) (A : Nat → Addr) (K : Nat → ClassId) (b62 : Addr) (h0 : Heap) (n0 : Nat) (v : Option Value) (h : Heap) (L : List Loc) : Prop := v = none ∧ Fr n0 L ∧ Keep h0 h [b62] ∧ (Exa Z h b62 "com/example/hangslot/hangslot/LockStore$Acquisition") ∧ (Fld Z h b62 "com/example/hangslot/hangslot/LockStore$Acquisition" "fencingToken" "J" (.long (p1 &&& (9223372036854775807 : Int64)))) ∧ (Fld Z h b62 "com/example/hangslot/hangslot/LockStore$Acquisition" "millisUntilFree" "J" (.long (-1 : Int64)))
theorem own_ef_rm11 (m : MethodId) (p1 : Int64) (p2 : Int64) (A : Nat → Addr) (K : Nat → ClassId)  (b62 : Addr) : entryFrame m #[(.ref b62), (.long (p1 &&& (9223372036854775807 : Int64))), (.long (-1 : Int64))] 5 = mkF m 0 #[.val (.ref b62), .val (.long (p1 &&& (9223372036854775807 : Int64))), .second, .val (.long (-1 : Int64)), .second] [] := by first | (simp [entryFrame, mkF, argsToLocals, Value.category, maxLocals]; done) | rfl
set_option maxRecDepth 65536 in
set_option maxHeartbeats 40000000 in
theorem rm11 (l : Launch) (Z : State) (a0 : Array Value) (hw : ∀ d ∈ tables_1, d.before a0 Z = true) (ws : List Jvm.Cond) (h0 : Heap) (n0 : Nat) (p1 : Int64) (p2 : Int64) (A : Nat → Addr) (K : Nat → ClassId)  (b62 : Addr) (EN : own_St Z A K) (OL0 : Old Z n0 h0) (G_F_b62_com_example_hangslot_hangslot_LockStore_Acquisition_fencingToken : Fld Z h0 b62 "com/example/hangslot/hangslot/LockStore$Acquisition" "fencingToken" "J" (.long (0 : Int64))) (G_E_b62 : Exa Z h0 b62 "com/example/hangslot/hangslot/LockStore$Acquisition") (G_F_b62_com_example_hangslot_hangslot_LockStore_Acquisition_millisUntilFree : Fld Z h0 b62 "com/example/hangslot/hangslot/LockStore$Acquisition" "millisUntilFree" "J" (.long (0 : Int64))) (gn_b62 : n0 ≤ b62) :
    MetFree l (⟨"com/example/hangslot/hangslot/LockStore$Acquisition", "<init>", "(JJ)V"⟩ : MethodName) (head1 (Jvm.Cond.code (⟨"com/example/hangslot/hangslot/LockStore$Acquisition", "<init>", "(JJ)V"⟩ : MethodName) prog_8_method_1_code 5 none :: ws) ({ frames := 2, cells := 0, slots := 0, locals := 24 } : Room)) (fun a U => a = #[(.ref b62), (.long (p1 &&& (9223372036854775807 : Int64))), (.long (-1 : Int64))] ∧ Z.Warmed39 U.vm ∧ U.heap = h0) (fun _ _ _ _ _ => True) (fun _ U o U' => ∃ v L, o = .returned v ∧ Q_rm11 Z p1 p2 A K b62 h0 n0 v U'.heap L ∧ FrameEnd U o U' L ({ frames := 2, cells := 0, slots := 0, locals := 24 } : Room).cells ({ frames := 2, cells := 0, slots := 0, locals := 24 } : Room).slots) := by
  refine MetFree.of_bodySF (plainFor_of_name own_pn1) hisR ?_
  intro p e s m args below meth c s₁ Bd hml0 hP hK
  obtain ⟨rfl, hZ, hh⟩ := hP
  have hx := Bd.exec
  have hby := Bd.bytes
  have hml : c.maxLocals = 5 := hml0
  have hown : s.vm.findClass "com/example/hangslot/hangslot/LockStore$Acquisition" = some m.cls := findClass_of_methodNamed Bd.named
  have hnm := (name_of_methodNamed Bd.named Bd.method).1
  have X0 : Stand p l e ({ frames := 2, cells := 0, slots := 0, locals := 24 } : Room) s m #[(.ref b62), (.long (p1 &&& (9223372036854775807 : Int64))), (.long (-1 : Int64))] below meth c s₁ [] 0 0 := Stand.of_body Bd
  have e0 : s₁.heap = h0 := by rw [← hh, Bd.state]; rfl
  have N0 := Fr.nil n0
  have pre0 : ∀ t, Steps p.tables e below (s₁.setTop (mkF m 0 #[.val (.ref b62), .val (.long (p1 &&& (9223372036854775807 : Int64))), .second, .val (.long (-1 : Int64)), .second] [])) t → Steps p.tables e below (s₁.setTop (entryFrame m #[(.ref b62), (.long (p1 &&& (9223372036854775807 : Int64))), (.long (-1 : Int64))] 5)) t := fun t k => castTop (own_ef_rm11 m p1 p2 A K b62) k
  have KK0 : Keep h0 h0 [b62] := Keep.refl _ _
  obtain ⟨_, _, ⟨T63, L63, k63, n63⟩, -, X63, ⟨Lc63, hQ63, l63, y63, z63⟩, st63⟩ := X0.specialBack hx (y := (⟨"java/lang/Record", "<init>", "()V"⟩ : MethodName)) rfl hown (mvT hZ (hw _ (List.mem_of_getElem? (i := 7) rfl))) (mvT hZ (hw _ (List.mem_of_getElem? (i := 8) rfl))) (mvT hZ (hw _ (List.mem_of_getElem? (i := 11) rfl))) (by decide) (backOf (W := 0) (rm2 l Z a0 hw [] h0 n0 p1 p2 A K b62 EN OL0) hZ (hw _ (List.mem_of_getElem? (i := 11) rfl)) (hw _ (List.mem_of_getElem? (i := 10) rfl)) (by decide) (by decide)) (g := (mkF m 1 #[.val (.ref b62), .val (.long (p1 &&& (9223372036854775807 : Int64))), .second, .val (.long (-1 : Int64)), .second] [(.ref b62)])) rfl (by rw [hml]; rfl) (Steps.refl _) (a := b62) (argsL := []) (rest := []) (lenOf own_pd0 rfl) rfl (by show 2 * 0 + _ ≤ _; exact Nat.le_of_eq rfl) (hb hby own_d_prog_8_method_1_code_1) (fun _ _ => ⟨rfl, e0, (by decide : 0 + 0 ≤ _), (by decide : 0 + 0 ≤ _)⟩)
  dsimp only [Pt.U, Pt.locs, Pt.cells, Pt.slots] at X63 l63 y63 z63 st63 hQ63
  subst l63 y63 z63
  obtain ⟨rfl, N63q, e63⟩ := hQ63
  have N63 := Fr.app N0 N63q
  obtain ⟨T64, h64, X64, e64, W64, st64⟩ := putF X63 hx hZ hown (host := "") (Or.inl (hw _ (List.mem_of_getElem? (i := 15) rfl))) Via.refl e63 G_F_b62_com_example_hangslot_hangslot_LockStore_Acquisition_fencingToken G_E_b62 (Or.inr ⟨(hw _ (List.mem_of_getElem? (i := 16) rfl)), rfl, hnm⟩) (hw _ (List.mem_of_getElem? (i := 2) rfl)) (ty := .long) (by decide) rfl rfl (g := (mkF m 6 #[.val (.ref b62), .val (.long (p1 &&& (9223372036854775807 : Int64))), .second, .val (.long (-1 : Int64)), .second] [(.long (p1 &&& (9223372036854775807 : Int64))), (.ref b62)])) rfl rfl (hb hby own_d_prog_8_method_1_code_6)
  have NF64 := Fr.snoc X64 N63 gn_b62
  have OL64 : Old Z n0 h64 := OL0.wr W64 gn_b62
  have KK64 : Keep h0 h64 [b62] := KK0.wr W64 (Or.inl (List.mem_of_getElem? (i := 0) rfl))
  have Fw64 : Fld Z h64 b62 "com/example/hangslot/hangslot/LockStore$Acquisition" "fencingToken" "J" (.long (p1 &&& (9223372036854775807 : Int64))) := G_F_b62_com_example_hangslot_hangslot_LockStore_Acquisition_fencingToken.same W64
  have fx65 : Fld Z h64 b62 "com/example/hangslot/hangslot/LockStore$Acquisition" "millisUntilFree" "J" (.long (0 : Int64)) := (G_F_b62_com_example_hangslot_hangslot_LockStore_Acquisition_millisUntilFree.other W64 (Or.inr (slot_ne (Or.inr (hw _ (List.mem_of_getElem? (i := 18) rfl))) (Or.inr (hw _ (List.mem_of_getElem? (i := 16) rfl))) (by decide) (t := .long) (t' := .long) (by decide) (by decide))))
  have fx66 : Exa Z h64 b62 "com/example/hangslot/hangslot/LockStore$Acquisition" := (G_E_b62.wr W64)
  obtain ⟨T67, h67, X67, e67, W67, st67⟩ := putF X64 hx hZ hown (host := "") (Or.inl (hw _ (List.mem_of_getElem? (i := 17) rfl))) Via.refl e64 fx65 fx66 (Or.inr ⟨(hw _ (List.mem_of_getElem? (i := 18) rfl)), rfl, hnm⟩) (hw _ (List.mem_of_getElem? (i := 2) rfl)) (ty := .long) (by decide) rfl rfl (g := (mkF m 11 #[.val (.ref b62), .val (.long (p1 &&& (9223372036854775807 : Int64))), .second, .val (.long (-1 : Int64)), .second] [(.long (-1 : Int64)), (.ref b62)])) rfl rfl (hb hby own_d_prog_8_method_1_code_11)
  have NF67 := Fr.snoc X67 NF64 gn_b62
  have OL67 : Old Z n0 h67 := OL64.wr W67 gn_b62
  have KK67 : Keep h0 h67 [b62] := KK64.wr W67 (Or.inl (List.mem_of_getElem? (i := 0) rfl))
  have Fw67 : Fld Z h67 b62 "com/example/hangslot/hangslot/LockStore$Acquisition" "millisUntilFree" "J" (.long (-1 : Int64)) := fx65.same W67
  have fx68 : Exa Z h67 b62 "com/example/hangslot/hangslot/LockStore$Acquisition" := (fx66.wr W67)
  have fx69 : Fld Z h67 b62 "com/example/hangslot/hangslot/LockStore$Acquisition" "fencingToken" "J" (.long (p1 &&& (9223372036854775807 : Int64))) := (Fw64.other W67 (Or.inr (slot_ne (Or.inr (hw _ (List.mem_of_getElem? (i := 16) rfl))) (Or.inr (hw _ (List.mem_of_getElem? (i := 18) rfl))) (by decide) (t := .long) (t' := .long) (by decide) (by decide))))
  obtain ⟨fs, hr, hrun, hended, hW, hsame⟩ := X67.leave (v := none) (fun _ => rfl)
  refine ⟨_, _, pre0 _ ?_, hrun, hended, _, _, rfl, ?_, ⟨_, rfl⟩, hW, hsame.mono (by decide) (by decide)⟩
  · show Steps p.tables e below (s₁.setTop (mkF m 0 #[.val (.ref b62), .val (.long (p1 &&& (9223372036854775807 : Int64))), .second, .val (.long (-1 : Int64)), .second] [])) _
    refine XS.aloadN X0.here hx rfl (hb hby own_d_prog_8_method_1_code_0) rfl rfl ?_
    show Steps p.tables e below (s₁.setTop (mkF m 1 #[.val (.ref b62), .val (.long (p1 &&& (9223372036854775807 : Int64))), .second, .val (.long (-1 : Int64)), .second] [(.ref b62)])) _
    refine st63.trans ?_
    show Steps p.tables e below (T63.setTop (mkF m 4 #[.val (.ref b62), .val (.long (p1 &&& (9223372036854775807 : Int64))), .second, .val (.long (-1 : Int64)), .second] [])) _
    refine XS.aloadN X63.here hx rfl (hb hby own_d_prog_8_method_1_code_4) rfl rfl ?_
    show Steps p.tables e below (T63.setTop (mkF m 5 #[.val (.ref b62), .val (.long (p1 &&& (9223372036854775807 : Int64))), .second, .val (.long (-1 : Int64)), .second] [(.ref b62)])) _
    refine XS.lloadN X63.here hx rfl (hb hby own_d_prog_8_method_1_code_5) rfl ?_
    show Steps p.tables e below (T63.setTop (mkF m 6 #[.val (.ref b62), .val (.long (p1 &&& (9223372036854775807 : Int64))), .second, .val (.long (-1 : Int64)), .second] [(.long (p1 &&& (9223372036854775807 : Int64))), (.ref b62)])) _
    refine st64 _ ?_
    show Steps p.tables e below (T64.setTop (mkF m 9 #[.val (.ref b62), .val (.long (p1 &&& (9223372036854775807 : Int64))), .second, .val (.long (-1 : Int64)), .second] [])) _
    refine XS.aloadN X64.here hx rfl (hb hby own_d_prog_8_method_1_code_9) rfl rfl ?_
    show Steps p.tables e below (T64.setTop (mkF m 10 #[.val (.ref b62), .val (.long (p1 &&& (9223372036854775807 : Int64))), .second, .val (.long (-1 : Int64)), .second] [(.ref b62)])) _
    refine XS.lloadN X64.here hx rfl (hb hby own_d_prog_8_method_1_code_10) rfl ?_
    show Steps p.tables e below (T64.setTop (mkF m 11 #[.val (.ref b62), .val (.long (p1 &&& (9223372036854775807 : Int64))), .second, .val (.long (-1 : Int64)), .second] [(.long (-1 : Int64)), (.ref b62)])) _
    refine st67 _ ?_
    show Steps p.tables e below (T67.setTop (mkF m 14 #[.val (.ref b62), .val (.long (p1 &&& (9223372036854775807 : Int64))), .second, .val (.long (-1 : Int64)), .second] [])) _
    exact X67.returnOut hx Bd.returns (hb hby own_d_prog_8_method_1_code_14) hr
  · show Q_rm11 Z p1 p2 A K b62 h0 n0 _ T67.heap _
    rw [e67]
    exact ⟨rfl, NF67, KK67, fx68, fx69, Fw67⟩
def Q_rm10 (Z : State) (p1 : Int64) (p2 : Int64) (A : Nat → Addr) (K : Nat → ClassId) (b52 : Addr) (b58_b56 : Addr) (h0 : Heap) (n0 : Nat) (v : Option Value) (h : Heap) (L : List Loc) : Prop := ∃ b62 : Addr, v = (some (.ref b62)) ∧ Fr n0 L ∧ Keep h0 h [] ∧ (n0 ≤ b62 ∧ h0.size ≤ b62) ∧ (Exa Z h b62 "com/example/hangslot/hangslot/LockStore$Acquisition") ∧ (Fld Z h b62 "com/example/hangslot/hangslot/LockStore$Acquisition" "fencingToken" "J" (.long (p1 &&& (9223372036854775807 : Int64)))) ∧ (Fld Z h b62 "com/example/hangslot/hangslot/LockStore$Acquisition" "millisUntilFree" "J" (.long (-1 : Int64)))
theorem own_d_prog_8_method_2_code_0 : decode prog_8_method_2_code 0 = .ok (.new 8, 3) := by decide +kernel
theorem own_d_prog_8_method_2_code_3 : decode prog_8_method_2_code 3 = .ok (.dup, 1) := by decide +kernel
theorem own_d_prog_8_method_2_code_4 : decode prog_8_method_2_code 4 = .ok (.lload_n 0, 1) := by decide +kernel
theorem own_d_prog_8_method_2_code_5 : decode prog_8_method_2_code 5 = .ok (.ldc2_w 16, 3) := by decide +kernel
theorem own_d_prog_8_method_2_code_8 : decode prog_8_method_2_code 8 = .ok (.invokespecial 18, 3) := by decide +kernel
theorem own_d_prog_8_method_2_code_11 : decode prog_8_method_2_code 11 = .ok (.areturn, 1) := by decide +kernel
theorem own_ef_rm10 (m : MethodId) (p1 : Int64) (p2 : Int64) (A : Nat → Addr) (K : Nat → ClassId)  (b52 : Addr) (b58_b56 : Addr) : entryFrame m #[(.long (p1 &&& (9223372036854775807 : Int64)))] 2 = mkF m 0 #[.val (.long (p1 &&& (9223372036854775807 : Int64))), .second] [] := by first | (simp [entryFrame, mkF, argsToLocals, Value.category, maxLocals]; done) | rfl
set_option maxRecDepth 65536 in
set_option maxHeartbeats 40000000 in
theorem rm10 (l : Launch) (Z : State) (a0 : Array Value) (hw : ∀ d ∈ tables_1, d.before a0 Z = true) (ws : List Jvm.Cond) (h0 : Heap) (n0 : Nat) (p1 : Int64) (p2 : Int64) (A : Nat → Addr) (K : Nat → ClassId)  (b52 : Addr) (b58_b56 : Addr) (EN : own_St Z A K) (OL0 : Old Z n0 h0) (G_E_b52 : Exa Z h0 b52 "com/example/hangslot/hangslot/LockStore$Acquisition") (G_E_b58_b56 : Exa Z h0 b58_b56 "com/example/hangslot/hangslot/LockStore$Acquisition") :
    MetFree l (⟨"com/example/hangslot/hangslot/LockStore$Acquisition", "taken", "(J)Lcom/example/hangslot/hangslot/LockStore$Acquisition;"⟩ : MethodName) (head1 (Jvm.Cond.code (⟨"com/example/hangslot/hangslot/LockStore$Acquisition", "taken", "(J)Lcom/example/hangslot/hangslot/LockStore$Acquisition;"⟩ : MethodName) prog_8_method_2_code 2 (some (.object "com/example/hangslot/hangslot/LockStore$Acquisition")) :: ws) ({ frames := 3, cells := 1, slots := 2, locals := 41 } : Room)) (fun a U => a = #[(.long (p1 &&& (9223372036854775807 : Int64)))] ∧ Z.Warmed39 U.vm ∧ U.heap = h0) (fun _ _ _ _ _ => True) (fun _ U o U' => ∃ v L, o = .returned v ∧ Q_rm10 Z p1 p2 A K b52 b58_b56 h0 n0 v U'.heap L ∧ FrameEnd U o U' L ({ frames := 3, cells := 1, slots := 2, locals := 41 } : Room).cells ({ frames := 3, cells := 1, slots := 2, locals := 41 } : Room).slots) := by
  refine MetFree.of_bodySF (plainFor_of_name own_pn1) hisR ?_
  intro p e s m args below meth c s₁ Bd hml0 hP hK
  obtain ⟨rfl, hZ, hh⟩ := hP
  have hx := Bd.exec
  have hby := Bd.bytes
  have hml : c.maxLocals = 2 := hml0
  have hown : s.vm.findClass "com/example/hangslot/hangslot/LockStore$Acquisition" = some m.cls := findClass_of_methodNamed Bd.named
  have hnm := (name_of_methodNamed Bd.named Bd.method).1
  have X0 : Stand p l e ({ frames := 3, cells := 1, slots := 2, locals := 41 } : Room) s m #[(.long (p1 &&& (9223372036854775807 : Int64)))] below meth c s₁ [] 0 0 := Stand.of_body Bd
  have e0 : s₁.heap = h0 := by rw [← hh, Bd.state]; rfl
  have N0 := Fr.nil n0
  have pre0 : ∀ t, Steps p.tables e below (s₁.setTop (mkF m 0 #[.val (.long (p1 &&& (9223372036854775807 : Int64))), .second] [])) t → Steps p.tables e below (s₁.setTop (entryFrame m #[(.long (p1 &&& (9223372036854775807 : Int64)))] 2)) t := fun t k => castTop (own_ef_rm10 m p1 p2 A K b52 b58_b56) k
  have KK0 : Keep h0 h0 [] := Keep.refl _ _
  obtain ⟨T62, h62, X62, e62, E62, A62, D62, -, st62⟩ := newO X0 hx hZ hown (hw _ (List.mem_of_getElem? (i := 27) rfl)) (hw _ (List.mem_of_getElem? (i := 2) rfl)) (hw _ (List.mem_of_getElem? (i := 3) rfl)) e0 (g := (mkF m 0 #[.val (.long (p1 &&& (9223372036854775807 : Int64))), .second] [])) rfl (hb hby own_d_prog_8_method_2_code_0) (by decide) (by decide)
  obtain ⟨b62, g62⟩ : ∃ z, z = h0.size := ⟨_, rfl⟩
  rw [← g62] at A62 D62 st62
  have gn_b62 : n0 ≤ b62 := Nat.le_trans (OL0.1 ▸ OL0.2.1) (Nat.le_of_eq g62.symm)
  have sz_b62 : h0.size ≤ b62 := Nat.le_trans KK0.1 (Nat.le_of_eq g62.symm)
  have lt_b52_b62 : b52 < b62 := Nat.lt_of_lt_of_le G_E_b52.lt (Nat.le_of_eq g62.symm)
  have lt_b58_b56_b62 : b58_b56 < b62 := Nat.lt_of_lt_of_le G_E_b58_b56.lt (Nat.le_of_eq g62.symm)
  have OL62 : Old Z n0 h62 := OL0.ext E62
  have KK62 : Keep h0 h62 [] := KK0.ext E62
  have F62_fencingToken : Fld Z h62 b62 "com/example/hangslot/hangslot/LockStore$Acquisition" "fencingToken" "J" (.long (0 : Int64)) := D62 (Or.inr (hw _ (List.mem_of_getElem? (i := 16) rfl))) (ty := .long) (by decide)
  have F62_millisUntilFree : Fld Z h62 b62 "com/example/hangslot/hangslot/LockStore$Acquisition" "millisUntilFree" "J" (.long (0 : Int64)) := D62 (Or.inr (hw _ (List.mem_of_getElem? (i := 18) rfl))) (ty := .long) (by decide)
  obtain ⟨_, _, ⟨T70, L70, k70, n70⟩, -, X70, ⟨Lc70, hQ70, l70, y70, z70⟩, st70⟩ := X62.specialBack hx (y := (⟨"com/example/hangslot/hangslot/LockStore$Acquisition", "<init>", "(JJ)V"⟩ : MethodName)) rfl hown (mvT hZ (hw _ (List.mem_of_getElem? (i := 28) rfl))) (mvT hZ (hw _ (List.mem_of_getElem? (i := 5) rfl))) (mvT hZ (hw _ (List.mem_of_getElem? (i := 6) rfl))) (by decide) (backOf (W := 1) (rm11 l Z a0 hw [] h62 n0 p1 p2 A K b62 EN OL62 F62_fencingToken A62 F62_millisUntilFree gn_b62) hZ (hw _ (List.mem_of_getElem? (i := 6) rfl)) (hw _ (List.mem_of_getElem? (i := 3) rfl)) (by decide) (by decide)) (g := (mkF m 8 #[.val (.long (p1 &&& (9223372036854775807 : Int64))), .second] [(.long (-1 : Int64)), (.long (p1 &&& (9223372036854775807 : Int64))), (.ref b62), (.ref b62)])) rfl (by rw [hml]; rfl) (Steps.refl _) (a := b62) (argsL := [(.long (p1 &&& (9223372036854775807 : Int64))), (.long (-1 : Int64))]) (rest := [(.ref b62)]) (lenOf own_pd1 rfl) rfl (by show 2 * 0 + _ ≤ _; exact Nat.le_of_eq rfl) (hb hby own_d_prog_8_method_2_code_8) (fun _ _ => ⟨rfl, e62, (by decide : 1 + 0 ≤ _), (by decide : 2 + 0 ≤ _)⟩)
  dsimp only [Pt.U, Pt.locs, Pt.cells, Pt.slots] at X70 l70 y70 z70 st70 hQ70
  subst l70 y70 z70
  obtain ⟨rfl, N70q, K70c, f70_0, f70_1, f70_2⟩ := hQ70
  have N70 := Fr.app N0 N70q
  have OL70 : Old Z n0 T70.heap := OL62.keep K70c (allS gn_b62 all0)
  have KK70 : Keep h0 T70.heap [] := KK62.trans K70c (allS (Or.inr sz_b62) all0)
  obtain ⟨fs, hr, hrun, hended, hW, hsame⟩ := X70.leave (v := some (.ref b62)) (fun h => by rw [Bd.returns] at h; cases h)
  refine ⟨_, _, pre0 _ ?_, hrun, hended, _, _, rfl, ?_, ⟨_, rfl⟩, hW, hsame.mono (by decide) (by decide)⟩
  · show Steps p.tables e below (s₁.setTop (mkF m 0 #[.val (.long (p1 &&& (9223372036854775807 : Int64))), .second] [])) _
    refine st62 _ ?_
    show Steps p.tables e below (T62.setTop (mkF m 3 #[.val (.long (p1 &&& (9223372036854775807 : Int64))), .second] [(.ref b62)])) _
    refine XS.dup X62.here hx rfl (hb hby own_d_prog_8_method_2_code_3) rfl rfl ?_
    show Steps p.tables e below (T62.setTop (mkF m 4 #[.val (.long (p1 &&& (9223372036854775807 : Int64))), .second] [(.ref b62), (.ref b62)])) _
    refine XS.lloadN X62.here hx rfl (hb hby own_d_prog_8_method_2_code_4) rfl ?_
    show Steps p.tables e below (T62.setTop (mkF m 5 #[.val (.long (p1 &&& (9223372036854775807 : Int64))), .second] [(.long (p1 &&& (9223372036854775807 : Int64))), (.ref b62), (.ref b62)])) _
    refine X62.ldc2Long hx hown (mvT hZ (hw _ (List.mem_of_getElem? (i := 34) rfl))) (g := (mkF m 5 #[.val (.long (p1 &&& (9223372036854775807 : Int64))), .second] [(.long (p1 &&& (9223372036854775807 : Int64))), (.ref b62), (.ref b62)])) rfl (hb hby own_d_prog_8_method_2_code_5) _ ?_
    show Steps p.tables e below (T62.setTop (mkF m 8 #[.val (.long (p1 &&& (9223372036854775807 : Int64))), .second] [(.long (-1 : Int64)), (.long (p1 &&& (9223372036854775807 : Int64))), (.ref b62), (.ref b62)])) _
    refine st70.trans ?_
    show Steps p.tables e below (T70.setTop (mkF m 11 #[.val (.long (p1 &&& (9223372036854775807 : Int64))), .second] [(.ref b62)])) _
    exact retOut X70 hx Bd.returns rfl (Or.inr (Or.inr (Or.inr (Or.inr ⟨rfl, rfl, rfl⟩)))) (hb hby own_d_prog_8_method_2_code_11) hr
  · show Q_rm10 Z p1 p2 A K b52 b58_b56 h0 n0 _ T70.heap _
    exact ⟨b62, rfl, N70, KK70, ⟨gn_b62, sz_b62⟩, f70_0, f70_1, f70_2⟩
theorem own_pn2 : plainName "com/example/hangslot/hangslot/AcquisitionTakenPinLaw" = true := by first | (simp [plainName, overriddenIn]; done) | decide +kernel
theorem own_ef_rm0 (m : MethodId) (p1 : Int64) (p2 : Int64) (A : Nat → Addr) (K : Nat → ClassId) : entryFrame m #[(.long p1), (.long p2)] maxLocals = mkF m 0 #[.val (.long p1), .second, .val (.long p2), .second, .unset, .unset, .unset, .unset, .unset, .unset] [] := by first | (simp [entryFrame, mkF, argsToLocals, Value.category, maxLocals]; done) | rfl
set_option maxRecDepth 65536 in
set_option maxHeartbeats 40000000 in
theorem rm0 (l : Launch) (Z : State) (a0 : Array Value) (hw : ∀ d ∈ tables_1, d.before a0 Z = true) (ws : List Jvm.Cond) (h0 : Heap) (n0 : Nat) (p1 : Int64) (p2 : Int64) (A : Nat → Addr) (K : Nat → ClassId) (EN : own_St Z A K) (OL0 : Old Z n0 h0) :
    MetFree l x (head1 (Jvm.Cond.code x code maxLocals ret :: ws) room_1) (fun a U => a = #[(.long p1), (.long p2)] ∧ Z.Warmed39 U.vm ∧ U.heap = h0) (fun _ _ _ _ _ => True) (fun _ U o U' => ∃ v L, o = .returned v ∧ (LQ n0) v U'.heap L ∧ FrameEnd U o U' L room_1.cells room_1.slots) := by
  refine MetFree.of_bodySF (plainFor_of_name own_pn2) hisR ?_
  intro p e s m args below meth c s₁ Bd hml0 hP hK
  obtain ⟨rfl, hZ, hh⟩ := hP
  have hx := Bd.exec
  have hby := Bd.bytes
  have hml : c.maxLocals = 10 := hml0
  have hown : s.vm.findClass "com/example/hangslot/hangslot/AcquisitionTakenPinLaw" = some m.cls := findClass_of_methodNamed Bd.named
  have hnm := (name_of_methodNamed Bd.named Bd.method).1
  have X0 : Stand p l e room_1 s m #[(.long p1), (.long p2)] below meth c s₁ [] 0 0 := Stand.of_body Bd
  have e0 : s₁.heap = h0 := by rw [← hh, Bd.state]; rfl
  have N0 := Fr.nil n0
  have pre0 : ∀ t, Steps p.tables e below (s₁.setTop (mkF m 0 #[.val (.long p1), .second, .val (.long p2), .second, .unset, .unset, .unset, .unset, .unset, .unset] [])) t → Steps p.tables e below (s₁.setTop (entryFrame m #[(.long p1), (.long p2)] maxLocals)) t := fun t k => castTop (own_ef_rm0 m p1 p2 A K) k
  have KK0 : Keep h0 h0 [] := Keep.refl _ _
  by_cases hp_24 : (lcmpW (p1 &&& (9223372036854775807 : Int64)) (0 : Int64)) = (0 : Int32)
  · obtain ⟨T25, h25, X25, e25, E25, A25, D25, -, st25⟩ := newO X0 hx hZ hown (hw _ (List.mem_of_getElem? (i := 1) rfl)) (hw _ (List.mem_of_getElem? (i := 2) rfl)) (hw _ (List.mem_of_getElem? (i := 3) rfl)) e0 (g := (mkF m 7 #[.val (.long p1), .second, .val (.long p2), .second, .val (.long (p1 &&& (9223372036854775807 : Int64))), .second, .unset, .unset, .unset, .unset] [])) rfl (hb hby at_7) (by decide) (by decide)
    obtain ⟨b25, g25⟩ : ∃ z, z = h0.size := ⟨_, rfl⟩
    rw [← g25] at A25 D25 st25
    have gn_b25 : n0 ≤ b25 := Nat.le_trans (OL0.1 ▸ OL0.2.1) (Nat.le_of_eq g25.symm)
    have sz_b25 : h0.size ≤ b25 := Nat.le_trans KK0.1 (Nat.le_of_eq g25.symm)
    have OL25 : Old Z n0 h25 := OL0.ext E25
    have KK25 : Keep h0 h25 [] := KK0.ext E25
    have F25_fencingToken : Fld Z h25 b25 "com/example/hangslot/hangslot/LockStore$Acquisition" "fencingToken" "J" (.long (0 : Int64)) := D25 (Or.inr (hw _ (List.mem_of_getElem? (i := 16) rfl))) (ty := .long) (by decide)
    have F25_millisUntilFree : Fld Z h25 b25 "com/example/hangslot/hangslot/LockStore$Acquisition" "millisUntilFree" "J" (.long (0 : Int64)) := D25 (Or.inr (hw _ (List.mem_of_getElem? (i := 18) rfl))) (ty := .long) (by decide)
    obtain ⟨_, _, ⟨T34, L34, k34, n34⟩, -, X34, ⟨Lc34, hQ34, l34, y34, z34⟩, st34⟩ := X25.specialBack hx (y := (⟨"com/example/hangslot/hangslot/LockStore$Acquisition", "<init>", "(JJ)V"⟩ : MethodName)) rfl hown (mvT hZ (hw _ (List.mem_of_getElem? (i := 4) rfl))) (mvT hZ (hw _ (List.mem_of_getElem? (i := 5) rfl))) (mvT hZ (hw _ (List.mem_of_getElem? (i := 6) rfl))) (by decide) (backOf (W := 1) (rm1 l Z a0 hw [] h25 n0 p1 p2 A K b25 EN OL25 F25_fencingToken A25 F25_millisUntilFree gn_b25) hZ (hw _ (List.mem_of_getElem? (i := 6) rfl)) (hw _ (List.mem_of_getElem? (i := 3) rfl)) (by decide) (by decide)) (g := (mkF m 14 #[.val (.long p1), .second, .val (.long p2), .second, .val (.long (p1 &&& (9223372036854775807 : Int64))), .second, .unset, .unset, .unset, .unset] [(.long p2), (.long (p1 &&& (9223372036854775807 : Int64))), (.ref b25), (.ref b25)])) rfl (by rw [hml]; rfl) (Steps.refl _) (a := b25) (argsL := [(.long (p1 &&& (9223372036854775807 : Int64))), (.long p2)]) (rest := [(.ref b25)]) (lenOf own_pd1 rfl) rfl (by show 2 * 0 + _ ≤ _; exact Nat.le_of_eq rfl) (hb hby at_14) (fun _ _ => ⟨rfl, e25, (by decide : 1 + 0 ≤ _), (by decide : 2 + 0 ≤ _)⟩)
    dsimp only [Pt.U, Pt.locs, Pt.cells, Pt.slots] at X34 l34 y34 z34 st34 hQ34
    subst l34 y34 z34
    obtain ⟨rfl, N34q, K34c, f34_0, f34_1, f34_2⟩ := hQ34
    have N34 := Fr.app N0 N34q
    have OL34 : Old Z n0 T34.heap := OL25.keep K34c (allS gn_b25 all0)
    have KK34 : Keep h0 T34.heap [] := KK25.trans K34c (allS (Or.inr sz_b25) all0)
    obtain ⟨cq36, kq36, q36a, q36b, q36c⟩ := isOf hZ rfl f34_0
    obtain ⟨_, _, ⟨T36, L36, k36, n36⟩, -, X36, ⟨Lc36, hQ36, l36, y36, z36⟩, st36⟩ := X34.virtualBack hx (y := (⟨"com/example/hangslot/hangslot/LockStore$Acquisition", "taken", "()Z"⟩ : MethodName)) (z := (⟨"com/example/hangslot/hangslot/LockStore$Acquisition", "taken", "()Z"⟩ : MethodName)) hown (mvT hZ (hw _ (List.mem_of_getElem? (i := 19) rfl))) (mvT hZ (hw _ (List.mem_of_getElem? (i := 20) rfl))) (notFace_of_selects (args := #[]) (mvT hZ (hw _ (List.mem_of_getElem? (i := 22) rfl)))) (mvT hZ (hw _ (List.mem_of_getElem? (i := 22) rfl))) (mvT hZ (hw _ (List.mem_of_getElem? (i := 21) rfl))) (by decide) (backOf (W := 0) (rm3 l Z a0 hw [] T34.heap n0 p1 p2 A K b25 EN OL34 f34_1 hp_24) hZ (hw _ (List.mem_of_getElem? (i := 23) rfl)) (hw _ (List.mem_of_getElem? (i := 3) rfl)) (by decide) (by decide)) q36a q36c (g := (mkF m 21 #[.val (.long p1), .second, .val (.long p2), .second, .val (.long (p1 &&& (9223372036854775807 : Int64))), .second, .val (.ref b25), .unset, .unset, .unset] [(.ref b25)])) rfl (by rw [hml]; rfl) (Steps.refl _) (argsL := []) (rest := []) (lenOf own_pd2 rfl) rfl (by show 2 * 0 + _ ≤ _; exact Nat.le_of_eq rfl) (hb hby at_21) (fun _ _ => ⟨rfl, rfl, (by decide : 1 + 0 ≤ _), (by decide : 2 + 0 ≤ _)⟩)
    dsimp only [Pt.U, Pt.locs, Pt.cells, Pt.slots] at X36 l36 y36 z36 st36 hQ36
    subst l36 y36 z36
    obtain ⟨rfl, N36q, e36⟩ := hQ36
    have N36 := Fr.app N34 N36q
    obtain ⟨_, _, ⟨T46, L46, k46, n46⟩, -, X46, ⟨Lc46, hQ46, l46, y46, z46⟩, st46⟩ := Jvm.LawKit.callS X36 hx (y := (⟨"com/example/hangslot/hangslot/LockStore$Acquisition", "refused", "(J)Lcom/example/hangslot/hangslot/LockStore$Acquisition;"⟩ : MethodName)) hown (mvT hZ (hw _ (List.mem_of_getElem? (i := 24) rfl))) (mvT hZ (hw _ (List.mem_of_getElem? (i := 25) rfl))) (mvT hZ (hw _ (List.mem_of_getElem? (i := 3) rfl))) (mvT hZ (hw _ (List.mem_of_getElem? (i := 26) rfl))) (by decide) (backOf (W := 0) (rm4 l Z a0 hw [] T34.heap n0 p1 p2 A K b25 EN OL34 f34_0) hZ (hw _ (List.mem_of_getElem? (i := 26) rfl)) (hw _ (List.mem_of_getElem? (i := 3) rfl)) (by decide) (by decide)) (g := (mkF m 47 #[.val (.long p1), .second, .val (.long p2), .second, .val (.long (p1 &&& (9223372036854775807 : Int64))), .second, .val (.ref b25), .val (.int (1 : Int32)), .unset, .unset] [(.long p2)])) rfl (by rw [hml]; rfl) (argsL := [(.long p2)]) (rest := []) (lenOf own_pd3 rfl) rfl (by show 2 * 0 + _ ≤ _; exact Nat.le_of_eq rfl) (hb hby at_47) (fun _ _ => ⟨rfl, e36, (by decide : 1 + 1 ≤ _), (by decide : 2 + 2 ≤ _)⟩)
    dsimp only [Pt.U, Pt.locs, Pt.cells, Pt.slots] at X46 l46 y46 z46 st46 hQ46
    subst l46 y46 z46
    obtain ⟨b46_b37, rfl, N46q, K46c, ⟨gn_b46_b37, szc_b46_b37⟩, f46_0, f46_1, f46_2⟩ := hQ46
    have N46 := Fr.app N36 N46q
    have lt_b25_b46_b37 : b25 < b46_b37 := Nat.lt_of_lt_of_le f34_0.lt szc_b46_b37
    have sz_b46_b37 : h0.size ≤ b46_b37 := Nat.le_trans KK34.1 szc_b46_b37
    have OL46 : Old Z n0 T46.heap := OL34.keep K46c all0
    have KK46 : Keep h0 T46.heap [] := KK34.trans K46c all0
    obtain ⟨cq48, kq48, q48a, q48b, q48c⟩ := isOf hZ rfl f46_0
    obtain ⟨_, _, ⟨T48, L48, k48, n48⟩, -, X48, ⟨Lc48, hQ48, l48, y48, z48⟩, st48⟩ := X46.virtualBack hx (y := (⟨"com/example/hangslot/hangslot/LockStore$Acquisition", "taken", "()Z"⟩ : MethodName)) (z := (⟨"com/example/hangslot/hangslot/LockStore$Acquisition", "taken", "()Z"⟩ : MethodName)) hown (mvT hZ (hw _ (List.mem_of_getElem? (i := 19) rfl))) (mvT hZ (hw _ (List.mem_of_getElem? (i := 20) rfl))) (notFace_of_selects (args := #[]) (mvT hZ (hw _ (List.mem_of_getElem? (i := 22) rfl)))) (mvT hZ (hw _ (List.mem_of_getElem? (i := 22) rfl))) (mvT hZ (hw _ (List.mem_of_getElem? (i := 21) rfl))) (by decide) (backOf (W := 0) (rm6 l Z a0 hw [] T46.heap n0 p1 p2 A K b46_b37 EN OL46 f46_1) hZ (hw _ (List.mem_of_getElem? (i := 23) rfl)) (hw _ (List.mem_of_getElem? (i := 3) rfl)) (by decide) (by decide)) q48a q48c (g := (mkF m 59 #[.val (.long p1), .second, .val (.long p2), .second, .val (.long (p1 &&& (9223372036854775807 : Int64))), .second, .val (.ref b25), .val (.int (1 : Int32)), .val (.ref b46_b37), .unset] [(.ref b46_b37)])) rfl (by rw [hml]; rfl) (Steps.refl _) (argsL := []) (rest := []) (lenOf own_pd2 rfl) rfl (by show 2 * 0 + _ ≤ _; exact Nat.le_of_eq rfl) (hb hby at_59) (fun _ _ => ⟨rfl, rfl, (by decide : 2 + 0 ≤ _), (by decide : 4 + 0 ≤ _)⟩)
    dsimp only [Pt.U, Pt.locs, Pt.cells, Pt.slots] at X48 l48 y48 z48 st48 hQ48
    subst l48 y48 z48
    obtain ⟨rfl, N48q, e48⟩ := hQ48
    have N48 := Fr.app N46 N48q
    obtain ⟨T49, X49, e49, st49⟩ := getS2 X48 hx hZ hown (host := "") (Or.inl (hw _ (List.mem_of_getElem? (i := 29) rfl))) Via.refl e48 (EN.1.1.ext OL46.2) (g := (mkF m 77 #[.val (.long p1), .second, .val (.long p2), .second, .val (.long (p1 &&& (9223372036854775807 : Int64))), .second, .val (.ref b25), .val (.int (1 : Int32)), .val (.ref b46_b37), .unset] [])) rfl (hb hby at_77)
    obtain ⟨cq51, kq51, q51a, q51b, q51c⟩ := isOf hZ e49 (EN.1.2.1.ext OL46.2)
    obtain ⟨_, _, ⟨T51, L51, k51, n51⟩, -, X51, ⟨Lc51, hQ51, l51, y51, z51⟩, st51⟩ := X49.virtualBack hx (y := (⟨"com/example/hangslot/hangslot/LockStore$Acquisition", "taken", "()Z"⟩ : MethodName)) (z := (⟨"com/example/hangslot/hangslot/LockStore$Acquisition", "taken", "()Z"⟩ : MethodName)) hown (mvT hZ (hw _ (List.mem_of_getElem? (i := 19) rfl))) (mvT hZ (hw _ (List.mem_of_getElem? (i := 20) rfl))) (notFace_of_selects (args := #[]) (mvT hZ (hw _ (List.mem_of_getElem? (i := 22) rfl)))) (mvT hZ (hw _ (List.mem_of_getElem? (i := 22) rfl))) (mvT hZ (hw _ (List.mem_of_getElem? (i := 21) rfl))) (by decide) (backOf (W := 0) (rm7 l Z a0 hw [] T46.heap n0 p1 p2 A K EN OL46) hZ (hw _ (List.mem_of_getElem? (i := 23) rfl)) (hw _ (List.mem_of_getElem? (i := 3) rfl)) (by decide) (by decide)) q51a q51c (g := (mkF m 80 #[.val (.long p1), .second, .val (.long p2), .second, .val (.long (p1 &&& (9223372036854775807 : Int64))), .second, .val (.ref b25), .val (.int (1 : Int32)), .val (.ref b46_b37), .unset] [(.ref (A 0))])) rfl (by rw [hml]; rfl) (Steps.refl _) (argsL := []) (rest := []) (lenOf own_pd2 rfl) rfl (by show 2 * 0 + _ ≤ _; exact Nat.le_of_eq rfl) (hb hby at_80) (fun _ _ => ⟨rfl, e49, (by decide : 2 + 0 ≤ _), (by decide : 4 + 0 ≤ _)⟩)
    dsimp only [Pt.U, Pt.locs, Pt.cells, Pt.slots] at X51 l51 y51 z51 st51 hQ51
    subst l51 y51 z51
    obtain ⟨rfl, N51q, e51⟩ := hQ51
    have N51 := Fr.app N48 N51q
    obtain ⟨fs, hr, hrun, hended, hW, hsame⟩ := X51.leave (v := some (.int (1 : Int32))) (fun h => by rw [Bd.returns] at h; cases h)
    refine ⟨_, _, pre0 _ ?_, hrun, hended, _, _, rfl, ?_, ⟨_, rfl⟩, hW, hsame.mono (by decide) (by decide)⟩
    · show Steps p.tables e below (s₁.setTop (mkF m 0 #[.val (.long p1), .second, .val (.long p2), .second, .unset, .unset, .unset, .unset, .unset, .unset] [])) _
      refine XS.lloadN X0.here hx rfl (hb hby at_0) rfl ?_
      show Steps p.tables e below (s₁.setTop (mkF m 1 #[.val (.long p1), .second, .val (.long p2), .second, .unset, .unset, .unset, .unset, .unset, .unset] [(.long p1)])) _
      refine X0.ldc2Long hx hown (mvT hZ (hw _ (List.mem_of_getElem? (i := 0) rfl))) (g := (mkF m 1 #[.val (.long p1), .second, .val (.long p2), .second, .unset, .unset, .unset, .unset, .unset, .unset] [(.long p1)])) rfl (hb hby at_1) _ ?_
      show Steps p.tables e below (s₁.setTop (mkF m 4 #[.val (.long p1), .second, .val (.long p2), .second, .unset, .unset, .unset, .unset, .unset, .unset] [(.long (9223372036854775807 : Int64)), (.long p1)])) _
      refine XS.land X0.here hx rfl (hb hby at_4) rfl ?_
      show Steps p.tables e below (s₁.setTop (mkF m 5 #[.val (.long p1), .second, .val (.long p2), .second, .unset, .unset, .unset, .unset, .unset, .unset] [(.long (p1 &&& (9223372036854775807 : Int64)))])) _
      refine XS.lstore X0.here hx rfl (hb hby at_5) rfl (l' := #[.val (.long p1), .second, .val (.long p2), .second, .val (.long (p1 &&& (9223372036854775807 : Int64))), .second, .unset, .unset, .unset, .unset]) rfl ?_
      show Steps p.tables e below (s₁.setTop (mkF m 7 #[.val (.long p1), .second, .val (.long p2), .second, .val (.long (p1 &&& (9223372036854775807 : Int64))), .second, .unset, .unset, .unset, .unset] [])) _
      refine st25 _ ?_
      show Steps p.tables e below (T25.setTop (mkF m 10 #[.val (.long p1), .second, .val (.long p2), .second, .val (.long (p1 &&& (9223372036854775807 : Int64))), .second, .unset, .unset, .unset, .unset] [(.ref b25)])) _
      refine XS.dup X25.here hx rfl (hb hby at_10) rfl rfl ?_
      show Steps p.tables e below (T25.setTop (mkF m 11 #[.val (.long p1), .second, .val (.long p2), .second, .val (.long (p1 &&& (9223372036854775807 : Int64))), .second, .unset, .unset, .unset, .unset] [(.ref b25), (.ref b25)])) _
      refine XS.lload X25.here hx rfl (hb hby at_11) rfl ?_
      show Steps p.tables e below (T25.setTop (mkF m 13 #[.val (.long p1), .second, .val (.long p2), .second, .val (.long (p1 &&& (9223372036854775807 : Int64))), .second, .unset, .unset, .unset, .unset] [(.long (p1 &&& (9223372036854775807 : Int64))), (.ref b25), (.ref b25)])) _
      refine XS.lloadN X25.here hx rfl (hb hby at_13) rfl ?_
      show Steps p.tables e below (T25.setTop (mkF m 14 #[.val (.long p1), .second, .val (.long p2), .second, .val (.long (p1 &&& (9223372036854775807 : Int64))), .second, .unset, .unset, .unset, .unset] [(.long p2), (.long (p1 &&& (9223372036854775807 : Int64))), (.ref b25), (.ref b25)])) _
      refine st34.trans ?_
      show Steps p.tables e below (T34.setTop (mkF m 17 #[.val (.long p1), .second, .val (.long p2), .second, .val (.long (p1 &&& (9223372036854775807 : Int64))), .second, .unset, .unset, .unset, .unset] [(.ref b25)])) _
      refine XS.astore X34.here hx rfl (hb hby at_17) rfl rfl (l' := #[.val (.long p1), .second, .val (.long p2), .second, .val (.long (p1 &&& (9223372036854775807 : Int64))), .second, .val (.ref b25), .unset, .unset, .unset]) rfl ?_
      show Steps p.tables e below (T34.setTop (mkF m 19 #[.val (.long p1), .second, .val (.long p2), .second, .val (.long (p1 &&& (9223372036854775807 : Int64))), .second, .val (.ref b25), .unset, .unset, .unset] [])) _
      refine XS.aload X34.here hx rfl (hb hby at_19) rfl rfl ?_
      show Steps p.tables e below (T34.setTop (mkF m 21 #[.val (.long p1), .second, .val (.long p2), .second, .val (.long (p1 &&& (9223372036854775807 : Int64))), .second, .val (.ref b25), .unset, .unset, .unset] [(.ref b25)])) _
      refine st36.trans ?_
      show Steps p.tables e below (T36.setTop (mkF m 24 #[.val (.long p1), .second, .val (.long p2), .second, .val (.long (p1 &&& (9223372036854775807 : Int64))), .second, .val (.ref b25), .unset, .unset, .unset] [(.int (0 : Int32))])) _
      refine XS.lload X36.here hx rfl (hb hby at_24) rfl ?_
      show Steps p.tables e below (T36.setTop (mkF m 26 #[.val (.long p1), .second, .val (.long p2), .second, .val (.long (p1 &&& (9223372036854775807 : Int64))), .second, .val (.ref b25), .unset, .unset, .unset] [(.long (p1 &&& (9223372036854775807 : Int64))), (.int (0 : Int32))])) _
      refine XS.lconst X36.here hx rfl (hb hby at_26) ?_
      show Steps p.tables e below (T36.setTop (mkF m 27 #[.val (.long p1), .second, .val (.long p2), .second, .val (.long (p1 &&& (9223372036854775807 : Int64))), .second, .val (.ref b25), .unset, .unset, .unset] [(.long (0 : Int64)), (.long (p1 &&& (9223372036854775807 : Int64))), (.int (0 : Int32))])) _
      refine XS.lcmp X36.here hx rfl (hb hby at_27) rfl ?_
      show Steps p.tables e below (T36.setTop (mkF m 28 #[.val (.long p1), .second, .val (.long p2), .second, .val (.long (p1 &&& (9223372036854775807 : Int64))), .second, .val (.ref b25), .unset, .unset, .unset] [(.int (lcmpW (p1 &&& (9223372036854775807 : Int64)) (0 : Int64))), (.int (0 : Int32))])) _
      refine XS.ifYes X36.here hx rfl (pc0 := 28) (pc' := 35) rfl (hb hby at_28) rfl ((if0 _ _).trans (teq hp_24).1) (by decide) (by decide) ?_
      show Steps p.tables e below (T36.setTop (mkF m 35 #[.val (.long p1), .second, .val (.long p2), .second, .val (.long (p1 &&& (9223372036854775807 : Int64))), .second, .val (.ref b25), .unset, .unset, .unset] [(.int (0 : Int32))])) _
      refine XS.iconst X36.here hx rfl (hb hby at_35) ?_
      show Steps p.tables e below (T36.setTop (mkF m 36 #[.val (.long p1), .second, .val (.long p2), .second, .val (.long (p1 &&& (9223372036854775807 : Int64))), .second, .val (.ref b25), .unset, .unset, .unset] [(.int (0 : Int32)), (.int (0 : Int32))])) _
      refine XS.icmpNo X36.here hx rfl (hb hby at_36) rfl (teq (by decide : (0 : Int32) = (0 : Int32))).2 ?_
      show Steps p.tables e below (T36.setTop (mkF m 39 #[.val (.long p1), .second, .val (.long p2), .second, .val (.long (p1 &&& (9223372036854775807 : Int64))), .second, .val (.ref b25), .unset, .unset, .unset] [])) _
      refine XS.iconst X36.here hx rfl (hb hby at_39) ?_
      show Steps p.tables e below (T36.setTop (mkF m 40 #[.val (.long p1), .second, .val (.long p2), .second, .val (.long (p1 &&& (9223372036854775807 : Int64))), .second, .val (.ref b25), .unset, .unset, .unset] [(.int (1 : Int32))])) _
      refine XS.goto X36.here hx rfl (pc0 := 40) (pc' := 44) rfl (hb hby at_40) (by decide) (by decide) ?_
      show Steps p.tables e below (T36.setTop (mkF m 44 #[.val (.long p1), .second, .val (.long p2), .second, .val (.long (p1 &&& (9223372036854775807 : Int64))), .second, .val (.ref b25), .unset, .unset, .unset] [(.int (1 : Int32))])) _
      refine XS.istore X36.here hx rfl (hb hby at_44) rfl (l' := #[.val (.long p1), .second, .val (.long p2), .second, .val (.long (p1 &&& (9223372036854775807 : Int64))), .second, .val (.ref b25), .val (.int (1 : Int32)), .unset, .unset]) rfl ?_
      show Steps p.tables e below (T36.setTop (mkF m 46 #[.val (.long p1), .second, .val (.long p2), .second, .val (.long (p1 &&& (9223372036854775807 : Int64))), .second, .val (.ref b25), .val (.int (1 : Int32)), .unset, .unset] [])) _
      refine XS.lloadN X36.here hx rfl (hb hby at_46) rfl ?_
      show Steps p.tables e below (T36.setTop (mkF m 47 #[.val (.long p1), .second, .val (.long p2), .second, .val (.long (p1 &&& (9223372036854775807 : Int64))), .second, .val (.ref b25), .val (.int (1 : Int32)), .unset, .unset] [(.long p2)])) _
      refine st46 _ ?_
      show Steps p.tables e below (T46.setTop (mkF m 50 #[.val (.long p1), .second, .val (.long p2), .second, .val (.long (p1 &&& (9223372036854775807 : Int64))), .second, .val (.ref b25), .val (.int (1 : Int32)), .unset, .unset] [(.ref b46_b37)])) _
      refine XS.astore X46.here hx rfl (hb hby at_50) rfl rfl (l' := #[.val (.long p1), .second, .val (.long p2), .second, .val (.long (p1 &&& (9223372036854775807 : Int64))), .second, .val (.ref b25), .val (.int (1 : Int32)), .val (.ref b46_b37), .unset]) rfl ?_
      show Steps p.tables e below (T46.setTop (mkF m 52 #[.val (.long p1), .second, .val (.long p2), .second, .val (.long (p1 &&& (9223372036854775807 : Int64))), .second, .val (.ref b25), .val (.int (1 : Int32)), .val (.ref b46_b37), .unset] [])) _
      refine XS.iload X46.here hx rfl (hb hby at_52) rfl ?_
      show Steps p.tables e below (T46.setTop (mkF m 54 #[.val (.long p1), .second, .val (.long p2), .second, .val (.long (p1 &&& (9223372036854775807 : Int64))), .second, .val (.ref b25), .val (.int (1 : Int32)), .val (.ref b46_b37), .unset] [(.int (1 : Int32))])) _
      refine XS.ifNo X46.here hx rfl (hb hby at_54) rfl ((if0 _ _).trans (feq (by decide : ¬ ((1 : Int32) = (0 : Int32)))).1) ?_
      show Steps p.tables e below (T46.setTop (mkF m 57 #[.val (.long p1), .second, .val (.long p2), .second, .val (.long (p1 &&& (9223372036854775807 : Int64))), .second, .val (.ref b25), .val (.int (1 : Int32)), .val (.ref b46_b37), .unset] [])) _
      refine XS.aload X46.here hx rfl (hb hby at_57) rfl rfl ?_
      show Steps p.tables e below (T46.setTop (mkF m 59 #[.val (.long p1), .second, .val (.long p2), .second, .val (.long (p1 &&& (9223372036854775807 : Int64))), .second, .val (.ref b25), .val (.int (1 : Int32)), .val (.ref b46_b37), .unset] [(.ref b46_b37)])) _
      refine st48.trans ?_
      show Steps p.tables e below (T48.setTop (mkF m 62 #[.val (.long p1), .second, .val (.long p2), .second, .val (.long (p1 &&& (9223372036854775807 : Int64))), .second, .val (.ref b25), .val (.int (1 : Int32)), .val (.ref b46_b37), .unset] [(.int (0 : Int32))])) _
      refine XS.ifNo X48.here hx rfl (hb hby at_62) rfl ((if0 _ _).trans (teq (by decide : (0 : Int32) = (0 : Int32))).2) ?_
      show Steps p.tables e below (T48.setTop (mkF m 65 #[.val (.long p1), .second, .val (.long p2), .second, .val (.long (p1 &&& (9223372036854775807 : Int64))), .second, .val (.ref b25), .val (.int (1 : Int32)), .val (.ref b46_b37), .unset] [])) _
      refine XS.iconst X48.here hx rfl (hb hby at_65) ?_
      show Steps p.tables e below (T48.setTop (mkF m 66 #[.val (.long p1), .second, .val (.long p2), .second, .val (.long (p1 &&& (9223372036854775807 : Int64))), .second, .val (.ref b25), .val (.int (1 : Int32)), .val (.ref b46_b37), .unset] [(.int (1 : Int32))])) _
      refine XS.goto X48.here hx rfl (pc0 := 66) (pc' := 70) rfl (hb hby at_66) (by decide) (by decide) ?_
      show Steps p.tables e below (T48.setTop (mkF m 70 #[.val (.long p1), .second, .val (.long p2), .second, .val (.long (p1 &&& (9223372036854775807 : Int64))), .second, .val (.ref b25), .val (.int (1 : Int32)), .val (.ref b46_b37), .unset] [(.int (1 : Int32))])) _
      refine XS.istore X48.here hx rfl (hb hby at_70) rfl (l' := #[.val (.long p1), .second, .val (.long p2), .second, .val (.long (p1 &&& (9223372036854775807 : Int64))), .second, .val (.ref b25), .val (.int (1 : Int32)), .val (.ref b46_b37), .unset]) rfl ?_
      show Steps p.tables e below (T48.setTop (mkF m 72 #[.val (.long p1), .second, .val (.long p2), .second, .val (.long (p1 &&& (9223372036854775807 : Int64))), .second, .val (.ref b25), .val (.int (1 : Int32)), .val (.ref b46_b37), .unset] [])) _
      refine XS.iload X48.here hx rfl (hb hby at_72) rfl ?_
      show Steps p.tables e below (T48.setTop (mkF m 74 #[.val (.long p1), .second, .val (.long p2), .second, .val (.long (p1 &&& (9223372036854775807 : Int64))), .second, .val (.ref b25), .val (.int (1 : Int32)), .val (.ref b46_b37), .unset] [(.int (1 : Int32))])) _
      refine XS.ifNo X48.here hx rfl (hb hby at_74) rfl ((if0 _ _).trans (feq (by decide : ¬ ((1 : Int32) = (0 : Int32)))).1) ?_
      show Steps p.tables e below (T48.setTop (mkF m 77 #[.val (.long p1), .second, .val (.long p2), .second, .val (.long (p1 &&& (9223372036854775807 : Int64))), .second, .val (.ref b25), .val (.int (1 : Int32)), .val (.ref b46_b37), .unset] [])) _
      refine st49 _ ?_
      show Steps p.tables e below (T49.setTop (mkF m 80 #[.val (.long p1), .second, .val (.long p2), .second, .val (.long (p1 &&& (9223372036854775807 : Int64))), .second, .val (.ref b25), .val (.int (1 : Int32)), .val (.ref b46_b37), .unset] [(.ref (A 0))])) _
      refine st51.trans ?_
      show Steps p.tables e below (T51.setTop (mkF m 83 #[.val (.long p1), .second, .val (.long p2), .second, .val (.long (p1 &&& (9223372036854775807 : Int64))), .second, .val (.ref b25), .val (.int (1 : Int32)), .val (.ref b46_b37), .unset] [(.int (0 : Int32))])) _
      refine XS.ifNo X51.here hx rfl (hb hby at_83) rfl ((if0 _ _).trans (teq (by decide : (0 : Int32) = (0 : Int32))).2) ?_
      show Steps p.tables e below (T51.setTop (mkF m 86 #[.val (.long p1), .second, .val (.long p2), .second, .val (.long (p1 &&& (9223372036854775807 : Int64))), .second, .val (.ref b25), .val (.int (1 : Int32)), .val (.ref b46_b37), .unset] [])) _
      refine XS.iconst X51.here hx rfl (hb hby at_86) ?_
      show Steps p.tables e below (T51.setTop (mkF m 87 #[.val (.long p1), .second, .val (.long p2), .second, .val (.long (p1 &&& (9223372036854775807 : Int64))), .second, .val (.ref b25), .val (.int (1 : Int32)), .val (.ref b46_b37), .unset] [(.int (1 : Int32))])) _
      refine XS.goto X51.here hx rfl (pc0 := 87) (pc' := 91) rfl (hb hby at_87) (by decide) (by decide) ?_
      show Steps p.tables e below (T51.setTop (mkF m 91 #[.val (.long p1), .second, .val (.long p2), .second, .val (.long (p1 &&& (9223372036854775807 : Int64))), .second, .val (.ref b25), .val (.int (1 : Int32)), .val (.ref b46_b37), .unset] [(.int (1 : Int32))])) _
      refine XS.istore X51.here hx rfl (hb hby at_91) rfl (l' := #[.val (.long p1), .second, .val (.long p2), .second, .val (.long (p1 &&& (9223372036854775807 : Int64))), .second, .val (.ref b25), .val (.int (1 : Int32)), .val (.ref b46_b37), .unset]) rfl ?_
      show Steps p.tables e below (T51.setTop (mkF m 93 #[.val (.long p1), .second, .val (.long p2), .second, .val (.long (p1 &&& (9223372036854775807 : Int64))), .second, .val (.ref b25), .val (.int (1 : Int32)), .val (.ref b46_b37), .unset] [])) _
      refine XS.lload X51.here hx rfl (hb hby at_93) rfl ?_
      show Steps p.tables e below (T51.setTop (mkF m 95 #[.val (.long p1), .second, .val (.long p2), .second, .val (.long (p1 &&& (9223372036854775807 : Int64))), .second, .val (.ref b25), .val (.int (1 : Int32)), .val (.ref b46_b37), .unset] [(.long (p1 &&& (9223372036854775807 : Int64)))])) _
      refine XS.lconst X51.here hx rfl (hb hby at_95) ?_
      show Steps p.tables e below (T51.setTop (mkF m 96 #[.val (.long p1), .second, .val (.long p2), .second, .val (.long (p1 &&& (9223372036854775807 : Int64))), .second, .val (.ref b25), .val (.int (1 : Int32)), .val (.ref b46_b37), .unset] [(.long (0 : Int64)), (.long (p1 &&& (9223372036854775807 : Int64)))])) _
      refine XS.lcmp X51.here hx rfl (hb hby at_96) rfl ?_
      show Steps p.tables e below (T51.setTop (mkF m 97 #[.val (.long p1), .second, .val (.long p2), .second, .val (.long (p1 &&& (9223372036854775807 : Int64))), .second, .val (.ref b25), .val (.int (1 : Int32)), .val (.ref b46_b37), .unset] [(.int (lcmpW (p1 &&& (9223372036854775807 : Int64)) (0 : Int64)))])) _
      refine XS.ifYes X51.here hx rfl (pc0 := 97) (pc' := 127) rfl (hb hby at_97) rfl ((if0 _ _).trans (teq hp_24).1) (by decide) (by decide) ?_
      show Steps p.tables e below (T51.setTop (mkF m 127 #[.val (.long p1), .second, .val (.long p2), .second, .val (.long (p1 &&& (9223372036854775807 : Int64))), .second, .val (.ref b25), .val (.int (1 : Int32)), .val (.ref b46_b37), .unset] [])) _
      refine XS.iload X51.here hx rfl (hb hby at_127) rfl ?_
      show Steps p.tables e below (T51.setTop (mkF m 129 #[.val (.long p1), .second, .val (.long p2), .second, .val (.long (p1 &&& (9223372036854775807 : Int64))), .second, .val (.ref b25), .val (.int (1 : Int32)), .val (.ref b46_b37), .unset] [(.int (1 : Int32))])) _
      exact retN X51 hx (t := .boolean) Bd.returns (by simp) (hb hby at_129) hr
    · show LQ n0 _ T51.heap _
      exact ⟨rfl, N51, trivial⟩
  · obtain ⟨T52, h52, X52, e52, E52, A52, D52, -, st52⟩ := newO X0 hx hZ hown (hw _ (List.mem_of_getElem? (i := 1) rfl)) (hw _ (List.mem_of_getElem? (i := 2) rfl)) (hw _ (List.mem_of_getElem? (i := 3) rfl)) e0 (g := (mkF m 7 #[.val (.long p1), .second, .val (.long p2), .second, .val (.long (p1 &&& (9223372036854775807 : Int64))), .second, .unset, .unset, .unset, .unset] [])) rfl (hb hby at_7) (by decide) (by decide)
    obtain ⟨b52, g52⟩ : ∃ z, z = h0.size := ⟨_, rfl⟩
    rw [← g52] at A52 D52 st52
    have gn_b52 : n0 ≤ b52 := Nat.le_trans (OL0.1 ▸ OL0.2.1) (Nat.le_of_eq g52.symm)
    have sz_b52 : h0.size ≤ b52 := Nat.le_trans KK0.1 (Nat.le_of_eq g52.symm)
    have OL52 : Old Z n0 h52 := OL0.ext E52
    have KK52 : Keep h0 h52 [] := KK0.ext E52
    have F52_fencingToken : Fld Z h52 b52 "com/example/hangslot/hangslot/LockStore$Acquisition" "fencingToken" "J" (.long (0 : Int64)) := D52 (Or.inr (hw _ (List.mem_of_getElem? (i := 16) rfl))) (ty := .long) (by decide)
    have F52_millisUntilFree : Fld Z h52 b52 "com/example/hangslot/hangslot/LockStore$Acquisition" "millisUntilFree" "J" (.long (0 : Int64)) := D52 (Or.inr (hw _ (List.mem_of_getElem? (i := 18) rfl))) (ty := .long) (by decide)
    obtain ⟨_, _, ⟨T53, L53, k53, n53⟩, -, X53, ⟨Lc53, hQ53, l53, y53, z53⟩, st53⟩ := X52.specialBack hx (y := (⟨"com/example/hangslot/hangslot/LockStore$Acquisition", "<init>", "(JJ)V"⟩ : MethodName)) rfl hown (mvT hZ (hw _ (List.mem_of_getElem? (i := 4) rfl))) (mvT hZ (hw _ (List.mem_of_getElem? (i := 5) rfl))) (mvT hZ (hw _ (List.mem_of_getElem? (i := 6) rfl))) (by decide) (backOf (W := 1) (rm1 l Z a0 hw [] h52 n0 p1 p2 A K b52 EN OL52 F52_fencingToken A52 F52_millisUntilFree gn_b52) hZ (hw _ (List.mem_of_getElem? (i := 6) rfl)) (hw _ (List.mem_of_getElem? (i := 3) rfl)) (by decide) (by decide)) (g := (mkF m 14 #[.val (.long p1), .second, .val (.long p2), .second, .val (.long (p1 &&& (9223372036854775807 : Int64))), .second, .unset, .unset, .unset, .unset] [(.long p2), (.long (p1 &&& (9223372036854775807 : Int64))), (.ref b52), (.ref b52)])) rfl (by rw [hml]; rfl) (Steps.refl _) (a := b52) (argsL := [(.long (p1 &&& (9223372036854775807 : Int64))), (.long p2)]) (rest := [(.ref b52)]) (lenOf own_pd1 rfl) rfl (by show 2 * 0 + _ ≤ _; exact Nat.le_of_eq rfl) (hb hby at_14) (fun _ _ => ⟨rfl, e52, (by decide : 1 + 0 ≤ _), (by decide : 2 + 0 ≤ _)⟩)
    dsimp only [Pt.U, Pt.locs, Pt.cells, Pt.slots] at X53 l53 y53 z53 st53 hQ53
    subst l53 y53 z53
    obtain ⟨rfl, N53q, K53c, f53_0, f53_1, f53_2⟩ := hQ53
    have N53 := Fr.app N0 N53q
    have OL53 : Old Z n0 T53.heap := OL52.keep K53c (allS gn_b52 all0)
    have KK53 : Keep h0 T53.heap [] := KK52.trans K53c (allS (Or.inr sz_b52) all0)
    obtain ⟨cq55, kq55, q55a, q55b, q55c⟩ := isOf hZ rfl f53_0
    obtain ⟨_, _, ⟨T55, L55, k55, n55⟩, -, X55, ⟨Lc55, hQ55, l55, y55, z55⟩, st55⟩ := X53.virtualBack hx (y := (⟨"com/example/hangslot/hangslot/LockStore$Acquisition", "taken", "()Z"⟩ : MethodName)) (z := (⟨"com/example/hangslot/hangslot/LockStore$Acquisition", "taken", "()Z"⟩ : MethodName)) hown (mvT hZ (hw _ (List.mem_of_getElem? (i := 19) rfl))) (mvT hZ (hw _ (List.mem_of_getElem? (i := 20) rfl))) (notFace_of_selects (args := #[]) (mvT hZ (hw _ (List.mem_of_getElem? (i := 22) rfl)))) (mvT hZ (hw _ (List.mem_of_getElem? (i := 22) rfl))) (mvT hZ (hw _ (List.mem_of_getElem? (i := 21) rfl))) (by decide) (backOf (W := 0) (rm8 l Z a0 hw [] T53.heap n0 p1 p2 A K b52 EN OL53 f53_1 hp_24) hZ (hw _ (List.mem_of_getElem? (i := 23) rfl)) (hw _ (List.mem_of_getElem? (i := 3) rfl)) (by decide) (by decide)) q55a q55c (g := (mkF m 21 #[.val (.long p1), .second, .val (.long p2), .second, .val (.long (p1 &&& (9223372036854775807 : Int64))), .second, .val (.ref b52), .unset, .unset, .unset] [(.ref b52)])) rfl (by rw [hml]; rfl) (Steps.refl _) (argsL := []) (rest := []) (lenOf own_pd2 rfl) rfl (by show 2 * 0 + _ ≤ _; exact Nat.le_of_eq rfl) (hb hby at_21) (fun _ _ => ⟨rfl, rfl, (by decide : 1 + 0 ≤ _), (by decide : 2 + 0 ≤ _)⟩)
    dsimp only [Pt.U, Pt.locs, Pt.cells, Pt.slots] at X55 l55 y55 z55 st55 hQ55
    subst l55 y55 z55
    obtain ⟨rfl, N55q, e55⟩ := hQ55
    have N55 := Fr.app N53 N55q
    obtain ⟨_, _, ⟨T58, L58, k58, n58⟩, -, X58, ⟨Lc58, hQ58, l58, y58, z58⟩, st58⟩ := Jvm.LawKit.callS X55 hx (y := (⟨"com/example/hangslot/hangslot/LockStore$Acquisition", "refused", "(J)Lcom/example/hangslot/hangslot/LockStore$Acquisition;"⟩ : MethodName)) hown (mvT hZ (hw _ (List.mem_of_getElem? (i := 24) rfl))) (mvT hZ (hw _ (List.mem_of_getElem? (i := 25) rfl))) (mvT hZ (hw _ (List.mem_of_getElem? (i := 3) rfl))) (mvT hZ (hw _ (List.mem_of_getElem? (i := 26) rfl))) (by decide) (backOf (W := 0) (rm9 l Z a0 hw [] T53.heap n0 p1 p2 A K b52 EN OL53 f53_0) hZ (hw _ (List.mem_of_getElem? (i := 26) rfl)) (hw _ (List.mem_of_getElem? (i := 3) rfl)) (by decide) (by decide)) (g := (mkF m 47 #[.val (.long p1), .second, .val (.long p2), .second, .val (.long (p1 &&& (9223372036854775807 : Int64))), .second, .val (.ref b52), .val (.int (1 : Int32)), .unset, .unset] [(.long p2)])) rfl (by rw [hml]; rfl) (argsL := [(.long p2)]) (rest := []) (lenOf own_pd3 rfl) rfl (by show 2 * 0 + _ ≤ _; exact Nat.le_of_eq rfl) (hb hby at_47) (fun _ _ => ⟨rfl, e55, (by decide : 1 + 1 ≤ _), (by decide : 2 + 2 ≤ _)⟩)
    dsimp only [Pt.U, Pt.locs, Pt.cells, Pt.slots] at X58 l58 y58 z58 st58 hQ58
    subst l58 y58 z58
    obtain ⟨b58_b56, rfl, N58q, K58c, ⟨gn_b58_b56, szc_b58_b56⟩, f58_0, f58_1, f58_2⟩ := hQ58
    have N58 := Fr.app N55 N58q
    have lt_b52_b58_b56 : b52 < b58_b56 := Nat.lt_of_lt_of_le f53_0.lt szc_b58_b56
    have sz_b58_b56 : h0.size ≤ b58_b56 := Nat.le_trans KK53.1 szc_b58_b56
    have OL58 : Old Z n0 T58.heap := OL53.keep K58c all0
    have KK58 : Keep h0 T58.heap [] := KK53.trans K58c all0
    obtain ⟨cq59, kq59, q59a, q59b, q59c⟩ := isOf hZ rfl f58_0
    obtain ⟨_, _, ⟨T59, L59, k59, n59⟩, -, X59, ⟨Lc59, hQ59, l59, y59, z59⟩, st59⟩ := X58.virtualBack hx (y := (⟨"com/example/hangslot/hangslot/LockStore$Acquisition", "taken", "()Z"⟩ : MethodName)) (z := (⟨"com/example/hangslot/hangslot/LockStore$Acquisition", "taken", "()Z"⟩ : MethodName)) hown (mvT hZ (hw _ (List.mem_of_getElem? (i := 19) rfl))) (mvT hZ (hw _ (List.mem_of_getElem? (i := 20) rfl))) (notFace_of_selects (args := #[]) (mvT hZ (hw _ (List.mem_of_getElem? (i := 22) rfl)))) (mvT hZ (hw _ (List.mem_of_getElem? (i := 22) rfl))) (mvT hZ (hw _ (List.mem_of_getElem? (i := 21) rfl))) (by decide) (backOf (W := 0) (rm6 l Z a0 hw [] T58.heap n0 p1 p2 A K b58_b56 EN OL58 f58_1) hZ (hw _ (List.mem_of_getElem? (i := 23) rfl)) (hw _ (List.mem_of_getElem? (i := 3) rfl)) (by decide) (by decide)) q59a q59c (g := (mkF m 59 #[.val (.long p1), .second, .val (.long p2), .second, .val (.long (p1 &&& (9223372036854775807 : Int64))), .second, .val (.ref b52), .val (.int (1 : Int32)), .val (.ref b58_b56), .unset] [(.ref b58_b56)])) rfl (by rw [hml]; rfl) (Steps.refl _) (argsL := []) (rest := []) (lenOf own_pd2 rfl) rfl (by show 2 * 0 + _ ≤ _; exact Nat.le_of_eq rfl) (hb hby at_59) (fun _ _ => ⟨rfl, rfl, (by decide : 2 + 0 ≤ _), (by decide : 4 + 0 ≤ _)⟩)
    dsimp only [Pt.U, Pt.locs, Pt.cells, Pt.slots] at X59 l59 y59 z59 st59 hQ59
    subst l59 y59 z59
    obtain ⟨rfl, N59q, e59⟩ := hQ59
    have N59 := Fr.app N58 N59q
    obtain ⟨T60, X60, e60, st60⟩ := getS2 X59 hx hZ hown (host := "") (Or.inl (hw _ (List.mem_of_getElem? (i := 29) rfl))) Via.refl e59 (EN.1.1.ext OL58.2) (g := (mkF m 77 #[.val (.long p1), .second, .val (.long p2), .second, .val (.long (p1 &&& (9223372036854775807 : Int64))), .second, .val (.ref b52), .val (.int (1 : Int32)), .val (.ref b58_b56), .unset] [])) rfl (hb hby at_77)
    obtain ⟨cq61, kq61, q61a, q61b, q61c⟩ := isOf hZ e60 (EN.1.2.1.ext OL58.2)
    obtain ⟨_, _, ⟨T61, L61, k61, n61⟩, -, X61, ⟨Lc61, hQ61, l61, y61, z61⟩, st61⟩ := X60.virtualBack hx (y := (⟨"com/example/hangslot/hangslot/LockStore$Acquisition", "taken", "()Z"⟩ : MethodName)) (z := (⟨"com/example/hangslot/hangslot/LockStore$Acquisition", "taken", "()Z"⟩ : MethodName)) hown (mvT hZ (hw _ (List.mem_of_getElem? (i := 19) rfl))) (mvT hZ (hw _ (List.mem_of_getElem? (i := 20) rfl))) (notFace_of_selects (args := #[]) (mvT hZ (hw _ (List.mem_of_getElem? (i := 22) rfl)))) (mvT hZ (hw _ (List.mem_of_getElem? (i := 22) rfl))) (mvT hZ (hw _ (List.mem_of_getElem? (i := 21) rfl))) (by decide) (backOf (W := 0) (rm7 l Z a0 hw [] T58.heap n0 p1 p2 A K EN OL58) hZ (hw _ (List.mem_of_getElem? (i := 23) rfl)) (hw _ (List.mem_of_getElem? (i := 3) rfl)) (by decide) (by decide)) q61a q61c (g := (mkF m 80 #[.val (.long p1), .second, .val (.long p2), .second, .val (.long (p1 &&& (9223372036854775807 : Int64))), .second, .val (.ref b52), .val (.int (1 : Int32)), .val (.ref b58_b56), .unset] [(.ref (A 0))])) rfl (by rw [hml]; rfl) (Steps.refl _) (argsL := []) (rest := []) (lenOf own_pd2 rfl) rfl (by show 2 * 0 + _ ≤ _; exact Nat.le_of_eq rfl) (hb hby at_80) (fun _ _ => ⟨rfl, e60, (by decide : 2 + 0 ≤ _), (by decide : 4 + 0 ≤ _)⟩)
    dsimp only [Pt.U, Pt.locs, Pt.cells, Pt.slots] at X61 l61 y61 z61 st61 hQ61
    subst l61 y61 z61
    obtain ⟨rfl, N61q, e61⟩ := hQ61
    have N61 := Fr.app N59 N61q
    have fx71 : Exa Z T58.heap b52 "com/example/hangslot/hangslot/LockStore$Acquisition" := (f53_0.keep K58c)
    obtain ⟨_, _, ⟨T72, L72, k72, n72⟩, -, X72, ⟨Lc72, hQ72, l72, y72, z72⟩, st72⟩ := Jvm.LawKit.callS X61 hx (y := (⟨"com/example/hangslot/hangslot/LockStore$Acquisition", "taken", "(J)Lcom/example/hangslot/hangslot/LockStore$Acquisition;"⟩ : MethodName)) hown (mvT hZ (hw _ (List.mem_of_getElem? (i := 31) rfl))) (mvT hZ (hw _ (List.mem_of_getElem? (i := 32) rfl))) (mvT hZ (hw _ (List.mem_of_getElem? (i := 3) rfl))) (mvT hZ (hw _ (List.mem_of_getElem? (i := 33) rfl))) (by decide) (backOf (W := 0) (rm10 l Z a0 hw [] T58.heap n0 p1 p2 A K b52 b58_b56 EN OL58 fx71 f58_0) hZ (hw _ (List.mem_of_getElem? (i := 33) rfl)) (hw _ (List.mem_of_getElem? (i := 3) rfl)) (by decide) (by decide)) (g := (mkF m 102 #[.val (.long p1), .second, .val (.long p2), .second, .val (.long (p1 &&& (9223372036854775807 : Int64))), .second, .val (.ref b52), .val (.int (1 : Int32)), .val (.ref b58_b56), .unset] [(.long (p1 &&& (9223372036854775807 : Int64)))])) rfl (by rw [hml]; rfl) (argsL := [(.long (p1 &&& (9223372036854775807 : Int64)))]) (rest := []) (lenOf own_pd3 rfl) rfl (by show 2 * 0 + _ ≤ _; exact Nat.le_of_eq rfl) (hb hby at_102) (fun _ _ => ⟨rfl, e61, (by decide : 2 + 1 ≤ _), (by decide : 4 + 2 ≤ _)⟩)
    dsimp only [Pt.U, Pt.locs, Pt.cells, Pt.slots] at X72 l72 y72 z72 st72 hQ72
    subst l72 y72 z72
    obtain ⟨b72_b62, rfl, N72q, K72c, ⟨gn_b72_b62, szc_b72_b62⟩, f72_0, f72_1, f72_2⟩ := hQ72
    have N72 := Fr.app N61 N72q
    have lt_b52_b72_b62 : b52 < b72_b62 := Nat.lt_of_lt_of_le fx71.lt szc_b72_b62
    have lt_b58_b56_b72_b62 : b58_b56 < b72_b62 := Nat.lt_of_lt_of_le f58_0.lt szc_b72_b62
    have sz_b72_b62 : h0.size ≤ b72_b62 := Nat.le_trans KK58.1 szc_b72_b62
    have OL72 : Old Z n0 T72.heap := OL58.keep K72c all0
    have KK72 : Keep h0 T72.heap [] := KK58.trans K72c all0
    obtain ⟨cq73, kq73, q73a, q73b, q73c⟩ := isOf hZ rfl f72_0
    obtain ⟨_, _, ⟨T73, L73, k73, n73⟩, -, X73, ⟨Lc73, hQ73, l73, y73, z73⟩, st73⟩ := X72.virtualBack hx (y := (⟨"com/example/hangslot/hangslot/LockStore$Acquisition", "taken", "()Z"⟩ : MethodName)) (z := (⟨"com/example/hangslot/hangslot/LockStore$Acquisition", "taken", "()Z"⟩ : MethodName)) hown (mvT hZ (hw _ (List.mem_of_getElem? (i := 19) rfl))) (mvT hZ (hw _ (List.mem_of_getElem? (i := 20) rfl))) (notFace_of_selects (args := #[]) (mvT hZ (hw _ (List.mem_of_getElem? (i := 22) rfl)))) (mvT hZ (hw _ (List.mem_of_getElem? (i := 22) rfl))) (mvT hZ (hw _ (List.mem_of_getElem? (i := 21) rfl))) (by decide) (backOf (W := 0) (rm8 l Z a0 hw [] T72.heap n0 p1 p2 A K b72_b62 EN OL72 f72_1 hp_24) hZ (hw _ (List.mem_of_getElem? (i := 23) rfl)) (hw _ (List.mem_of_getElem? (i := 3) rfl)) (by decide) (by decide)) q73a q73c (g := (mkF m 114 #[.val (.long p1), .second, .val (.long p2), .second, .val (.long (p1 &&& (9223372036854775807 : Int64))), .second, .val (.ref b52), .val (.int (1 : Int32)), .val (.ref b58_b56), .val (.ref b72_b62)] [(.ref b72_b62)])) rfl (by rw [hml]; rfl) (Steps.refl _) (argsL := []) (rest := []) (lenOf own_pd2 rfl) rfl (by show 2 * 0 + _ ≤ _; exact Nat.le_of_eq rfl) (hb hby at_114) (fun _ _ => ⟨rfl, rfl, (by decide : 3 + 0 ≤ _), (by decide : 6 + 0 ≤ _)⟩)
    dsimp only [Pt.U, Pt.locs, Pt.cells, Pt.slots] at X73 l73 y73 z73 st73 hQ73
    subst l73 y73 z73
    obtain ⟨rfl, N73q, e73⟩ := hQ73
    have N73 := Fr.app N72 N73q
    obtain ⟨fs, hr, hrun, hended, hW, hsame⟩ := X73.leave (v := some (.int (1 : Int32))) (fun h => by rw [Bd.returns] at h; cases h)
    refine ⟨_, _, pre0 _ ?_, hrun, hended, _, _, rfl, ?_, ⟨_, rfl⟩, hW, hsame.mono (by decide) (by decide)⟩
    · show Steps p.tables e below (s₁.setTop (mkF m 0 #[.val (.long p1), .second, .val (.long p2), .second, .unset, .unset, .unset, .unset, .unset, .unset] [])) _
      refine XS.lloadN X0.here hx rfl (hb hby at_0) rfl ?_
      show Steps p.tables e below (s₁.setTop (mkF m 1 #[.val (.long p1), .second, .val (.long p2), .second, .unset, .unset, .unset, .unset, .unset, .unset] [(.long p1)])) _
      refine X0.ldc2Long hx hown (mvT hZ (hw _ (List.mem_of_getElem? (i := 0) rfl))) (g := (mkF m 1 #[.val (.long p1), .second, .val (.long p2), .second, .unset, .unset, .unset, .unset, .unset, .unset] [(.long p1)])) rfl (hb hby at_1) _ ?_
      show Steps p.tables e below (s₁.setTop (mkF m 4 #[.val (.long p1), .second, .val (.long p2), .second, .unset, .unset, .unset, .unset, .unset, .unset] [(.long (9223372036854775807 : Int64)), (.long p1)])) _
      refine XS.land X0.here hx rfl (hb hby at_4) rfl ?_
      show Steps p.tables e below (s₁.setTop (mkF m 5 #[.val (.long p1), .second, .val (.long p2), .second, .unset, .unset, .unset, .unset, .unset, .unset] [(.long (p1 &&& (9223372036854775807 : Int64)))])) _
      refine XS.lstore X0.here hx rfl (hb hby at_5) rfl (l' := #[.val (.long p1), .second, .val (.long p2), .second, .val (.long (p1 &&& (9223372036854775807 : Int64))), .second, .unset, .unset, .unset, .unset]) rfl ?_
      show Steps p.tables e below (s₁.setTop (mkF m 7 #[.val (.long p1), .second, .val (.long p2), .second, .val (.long (p1 &&& (9223372036854775807 : Int64))), .second, .unset, .unset, .unset, .unset] [])) _
      refine st52 _ ?_
      show Steps p.tables e below (T52.setTop (mkF m 10 #[.val (.long p1), .second, .val (.long p2), .second, .val (.long (p1 &&& (9223372036854775807 : Int64))), .second, .unset, .unset, .unset, .unset] [(.ref b52)])) _
      refine XS.dup X52.here hx rfl (hb hby at_10) rfl rfl ?_
      show Steps p.tables e below (T52.setTop (mkF m 11 #[.val (.long p1), .second, .val (.long p2), .second, .val (.long (p1 &&& (9223372036854775807 : Int64))), .second, .unset, .unset, .unset, .unset] [(.ref b52), (.ref b52)])) _
      refine XS.lload X52.here hx rfl (hb hby at_11) rfl ?_
      show Steps p.tables e below (T52.setTop (mkF m 13 #[.val (.long p1), .second, .val (.long p2), .second, .val (.long (p1 &&& (9223372036854775807 : Int64))), .second, .unset, .unset, .unset, .unset] [(.long (p1 &&& (9223372036854775807 : Int64))), (.ref b52), (.ref b52)])) _
      refine XS.lloadN X52.here hx rfl (hb hby at_13) rfl ?_
      show Steps p.tables e below (T52.setTop (mkF m 14 #[.val (.long p1), .second, .val (.long p2), .second, .val (.long (p1 &&& (9223372036854775807 : Int64))), .second, .unset, .unset, .unset, .unset] [(.long p2), (.long (p1 &&& (9223372036854775807 : Int64))), (.ref b52), (.ref b52)])) _
      refine st53.trans ?_
      show Steps p.tables e below (T53.setTop (mkF m 17 #[.val (.long p1), .second, .val (.long p2), .second, .val (.long (p1 &&& (9223372036854775807 : Int64))), .second, .unset, .unset, .unset, .unset] [(.ref b52)])) _
      refine XS.astore X53.here hx rfl (hb hby at_17) rfl rfl (l' := #[.val (.long p1), .second, .val (.long p2), .second, .val (.long (p1 &&& (9223372036854775807 : Int64))), .second, .val (.ref b52), .unset, .unset, .unset]) rfl ?_
      show Steps p.tables e below (T53.setTop (mkF m 19 #[.val (.long p1), .second, .val (.long p2), .second, .val (.long (p1 &&& (9223372036854775807 : Int64))), .second, .val (.ref b52), .unset, .unset, .unset] [])) _
      refine XS.aload X53.here hx rfl (hb hby at_19) rfl rfl ?_
      show Steps p.tables e below (T53.setTop (mkF m 21 #[.val (.long p1), .second, .val (.long p2), .second, .val (.long (p1 &&& (9223372036854775807 : Int64))), .second, .val (.ref b52), .unset, .unset, .unset] [(.ref b52)])) _
      refine st55.trans ?_
      show Steps p.tables e below (T55.setTop (mkF m 24 #[.val (.long p1), .second, .val (.long p2), .second, .val (.long (p1 &&& (9223372036854775807 : Int64))), .second, .val (.ref b52), .unset, .unset, .unset] [(.int (1 : Int32))])) _
      refine XS.lload X55.here hx rfl (hb hby at_24) rfl ?_
      show Steps p.tables e below (T55.setTop (mkF m 26 #[.val (.long p1), .second, .val (.long p2), .second, .val (.long (p1 &&& (9223372036854775807 : Int64))), .second, .val (.ref b52), .unset, .unset, .unset] [(.long (p1 &&& (9223372036854775807 : Int64))), (.int (1 : Int32))])) _
      refine XS.lconst X55.here hx rfl (hb hby at_26) ?_
      show Steps p.tables e below (T55.setTop (mkF m 27 #[.val (.long p1), .second, .val (.long p2), .second, .val (.long (p1 &&& (9223372036854775807 : Int64))), .second, .val (.ref b52), .unset, .unset, .unset] [(.long (0 : Int64)), (.long (p1 &&& (9223372036854775807 : Int64))), (.int (1 : Int32))])) _
      refine XS.lcmp X55.here hx rfl (hb hby at_27) rfl ?_
      show Steps p.tables e below (T55.setTop (mkF m 28 #[.val (.long p1), .second, .val (.long p2), .second, .val (.long (p1 &&& (9223372036854775807 : Int64))), .second, .val (.ref b52), .unset, .unset, .unset] [(.int (lcmpW (p1 &&& (9223372036854775807 : Int64)) (0 : Int64))), (.int (1 : Int32))])) _
      refine XS.ifNo X55.here hx rfl (hb hby at_28) rfl ((if0 _ _).trans (feq hp_24).1) ?_
      show Steps p.tables e below (T55.setTop (mkF m 31 #[.val (.long p1), .second, .val (.long p2), .second, .val (.long (p1 &&& (9223372036854775807 : Int64))), .second, .val (.ref b52), .unset, .unset, .unset] [(.int (1 : Int32))])) _
      refine XS.iconst X55.here hx rfl (hb hby at_31) ?_
      show Steps p.tables e below (T55.setTop (mkF m 32 #[.val (.long p1), .second, .val (.long p2), .second, .val (.long (p1 &&& (9223372036854775807 : Int64))), .second, .val (.ref b52), .unset, .unset, .unset] [(.int (1 : Int32)), (.int (1 : Int32))])) _
      refine XS.goto X55.here hx rfl (pc0 := 32) (pc' := 36) rfl (hb hby at_32) (by decide) (by decide) ?_
      show Steps p.tables e below (T55.setTop (mkF m 36 #[.val (.long p1), .second, .val (.long p2), .second, .val (.long (p1 &&& (9223372036854775807 : Int64))), .second, .val (.ref b52), .unset, .unset, .unset] [(.int (1 : Int32)), (.int (1 : Int32))])) _
      refine XS.icmpNo X55.here hx rfl (hb hby at_36) rfl (teq (by decide : (1 : Int32) = (1 : Int32))).2 ?_
      show Steps p.tables e below (T55.setTop (mkF m 39 #[.val (.long p1), .second, .val (.long p2), .second, .val (.long (p1 &&& (9223372036854775807 : Int64))), .second, .val (.ref b52), .unset, .unset, .unset] [])) _
      refine XS.iconst X55.here hx rfl (hb hby at_39) ?_
      show Steps p.tables e below (T55.setTop (mkF m 40 #[.val (.long p1), .second, .val (.long p2), .second, .val (.long (p1 &&& (9223372036854775807 : Int64))), .second, .val (.ref b52), .unset, .unset, .unset] [(.int (1 : Int32))])) _
      refine XS.goto X55.here hx rfl (pc0 := 40) (pc' := 44) rfl (hb hby at_40) (by decide) (by decide) ?_
      show Steps p.tables e below (T55.setTop (mkF m 44 #[.val (.long p1), .second, .val (.long p2), .second, .val (.long (p1 &&& (9223372036854775807 : Int64))), .second, .val (.ref b52), .unset, .unset, .unset] [(.int (1 : Int32))])) _
      refine XS.istore X55.here hx rfl (hb hby at_44) rfl (l' := #[.val (.long p1), .second, .val (.long p2), .second, .val (.long (p1 &&& (9223372036854775807 : Int64))), .second, .val (.ref b52), .val (.int (1 : Int32)), .unset, .unset]) rfl ?_
      show Steps p.tables e below (T55.setTop (mkF m 46 #[.val (.long p1), .second, .val (.long p2), .second, .val (.long (p1 &&& (9223372036854775807 : Int64))), .second, .val (.ref b52), .val (.int (1 : Int32)), .unset, .unset] [])) _
      refine XS.lloadN X55.here hx rfl (hb hby at_46) rfl ?_
      show Steps p.tables e below (T55.setTop (mkF m 47 #[.val (.long p1), .second, .val (.long p2), .second, .val (.long (p1 &&& (9223372036854775807 : Int64))), .second, .val (.ref b52), .val (.int (1 : Int32)), .unset, .unset] [(.long p2)])) _
      refine st58 _ ?_
      show Steps p.tables e below (T58.setTop (mkF m 50 #[.val (.long p1), .second, .val (.long p2), .second, .val (.long (p1 &&& (9223372036854775807 : Int64))), .second, .val (.ref b52), .val (.int (1 : Int32)), .unset, .unset] [(.ref b58_b56)])) _
      refine XS.astore X58.here hx rfl (hb hby at_50) rfl rfl (l' := #[.val (.long p1), .second, .val (.long p2), .second, .val (.long (p1 &&& (9223372036854775807 : Int64))), .second, .val (.ref b52), .val (.int (1 : Int32)), .val (.ref b58_b56), .unset]) rfl ?_
      show Steps p.tables e below (T58.setTop (mkF m 52 #[.val (.long p1), .second, .val (.long p2), .second, .val (.long (p1 &&& (9223372036854775807 : Int64))), .second, .val (.ref b52), .val (.int (1 : Int32)), .val (.ref b58_b56), .unset] [])) _
      refine XS.iload X58.here hx rfl (hb hby at_52) rfl ?_
      show Steps p.tables e below (T58.setTop (mkF m 54 #[.val (.long p1), .second, .val (.long p2), .second, .val (.long (p1 &&& (9223372036854775807 : Int64))), .second, .val (.ref b52), .val (.int (1 : Int32)), .val (.ref b58_b56), .unset] [(.int (1 : Int32))])) _
      refine XS.ifNo X58.here hx rfl (hb hby at_54) rfl ((if0 _ _).trans (feq (by decide : ¬ ((1 : Int32) = (0 : Int32)))).1) ?_
      show Steps p.tables e below (T58.setTop (mkF m 57 #[.val (.long p1), .second, .val (.long p2), .second, .val (.long (p1 &&& (9223372036854775807 : Int64))), .second, .val (.ref b52), .val (.int (1 : Int32)), .val (.ref b58_b56), .unset] [])) _
      refine XS.aload X58.here hx rfl (hb hby at_57) rfl rfl ?_
      show Steps p.tables e below (T58.setTop (mkF m 59 #[.val (.long p1), .second, .val (.long p2), .second, .val (.long (p1 &&& (9223372036854775807 : Int64))), .second, .val (.ref b52), .val (.int (1 : Int32)), .val (.ref b58_b56), .unset] [(.ref b58_b56)])) _
      refine st59.trans ?_
      show Steps p.tables e below (T59.setTop (mkF m 62 #[.val (.long p1), .second, .val (.long p2), .second, .val (.long (p1 &&& (9223372036854775807 : Int64))), .second, .val (.ref b52), .val (.int (1 : Int32)), .val (.ref b58_b56), .unset] [(.int (0 : Int32))])) _
      refine XS.ifNo X59.here hx rfl (hb hby at_62) rfl ((if0 _ _).trans (teq (by decide : (0 : Int32) = (0 : Int32))).2) ?_
      show Steps p.tables e below (T59.setTop (mkF m 65 #[.val (.long p1), .second, .val (.long p2), .second, .val (.long (p1 &&& (9223372036854775807 : Int64))), .second, .val (.ref b52), .val (.int (1 : Int32)), .val (.ref b58_b56), .unset] [])) _
      refine XS.iconst X59.here hx rfl (hb hby at_65) ?_
      show Steps p.tables e below (T59.setTop (mkF m 66 #[.val (.long p1), .second, .val (.long p2), .second, .val (.long (p1 &&& (9223372036854775807 : Int64))), .second, .val (.ref b52), .val (.int (1 : Int32)), .val (.ref b58_b56), .unset] [(.int (1 : Int32))])) _
      refine XS.goto X59.here hx rfl (pc0 := 66) (pc' := 70) rfl (hb hby at_66) (by decide) (by decide) ?_
      show Steps p.tables e below (T59.setTop (mkF m 70 #[.val (.long p1), .second, .val (.long p2), .second, .val (.long (p1 &&& (9223372036854775807 : Int64))), .second, .val (.ref b52), .val (.int (1 : Int32)), .val (.ref b58_b56), .unset] [(.int (1 : Int32))])) _
      refine XS.istore X59.here hx rfl (hb hby at_70) rfl (l' := #[.val (.long p1), .second, .val (.long p2), .second, .val (.long (p1 &&& (9223372036854775807 : Int64))), .second, .val (.ref b52), .val (.int (1 : Int32)), .val (.ref b58_b56), .unset]) rfl ?_
      show Steps p.tables e below (T59.setTop (mkF m 72 #[.val (.long p1), .second, .val (.long p2), .second, .val (.long (p1 &&& (9223372036854775807 : Int64))), .second, .val (.ref b52), .val (.int (1 : Int32)), .val (.ref b58_b56), .unset] [])) _
      refine XS.iload X59.here hx rfl (hb hby at_72) rfl ?_
      show Steps p.tables e below (T59.setTop (mkF m 74 #[.val (.long p1), .second, .val (.long p2), .second, .val (.long (p1 &&& (9223372036854775807 : Int64))), .second, .val (.ref b52), .val (.int (1 : Int32)), .val (.ref b58_b56), .unset] [(.int (1 : Int32))])) _
      refine XS.ifNo X59.here hx rfl (hb hby at_74) rfl ((if0 _ _).trans (feq (by decide : ¬ ((1 : Int32) = (0 : Int32)))).1) ?_
      show Steps p.tables e below (T59.setTop (mkF m 77 #[.val (.long p1), .second, .val (.long p2), .second, .val (.long (p1 &&& (9223372036854775807 : Int64))), .second, .val (.ref b52), .val (.int (1 : Int32)), .val (.ref b58_b56), .unset] [])) _
      refine st60 _ ?_
      show Steps p.tables e below (T60.setTop (mkF m 80 #[.val (.long p1), .second, .val (.long p2), .second, .val (.long (p1 &&& (9223372036854775807 : Int64))), .second, .val (.ref b52), .val (.int (1 : Int32)), .val (.ref b58_b56), .unset] [(.ref (A 0))])) _
      refine st61.trans ?_
      show Steps p.tables e below (T61.setTop (mkF m 83 #[.val (.long p1), .second, .val (.long p2), .second, .val (.long (p1 &&& (9223372036854775807 : Int64))), .second, .val (.ref b52), .val (.int (1 : Int32)), .val (.ref b58_b56), .unset] [(.int (0 : Int32))])) _
      refine XS.ifNo X61.here hx rfl (hb hby at_83) rfl ((if0 _ _).trans (teq (by decide : (0 : Int32) = (0 : Int32))).2) ?_
      show Steps p.tables e below (T61.setTop (mkF m 86 #[.val (.long p1), .second, .val (.long p2), .second, .val (.long (p1 &&& (9223372036854775807 : Int64))), .second, .val (.ref b52), .val (.int (1 : Int32)), .val (.ref b58_b56), .unset] [])) _
      refine XS.iconst X61.here hx rfl (hb hby at_86) ?_
      show Steps p.tables e below (T61.setTop (mkF m 87 #[.val (.long p1), .second, .val (.long p2), .second, .val (.long (p1 &&& (9223372036854775807 : Int64))), .second, .val (.ref b52), .val (.int (1 : Int32)), .val (.ref b58_b56), .unset] [(.int (1 : Int32))])) _
      refine XS.goto X61.here hx rfl (pc0 := 87) (pc' := 91) rfl (hb hby at_87) (by decide) (by decide) ?_
      show Steps p.tables e below (T61.setTop (mkF m 91 #[.val (.long p1), .second, .val (.long p2), .second, .val (.long (p1 &&& (9223372036854775807 : Int64))), .second, .val (.ref b52), .val (.int (1 : Int32)), .val (.ref b58_b56), .unset] [(.int (1 : Int32))])) _
      refine XS.istore X61.here hx rfl (hb hby at_91) rfl (l' := #[.val (.long p1), .second, .val (.long p2), .second, .val (.long (p1 &&& (9223372036854775807 : Int64))), .second, .val (.ref b52), .val (.int (1 : Int32)), .val (.ref b58_b56), .unset]) rfl ?_
      show Steps p.tables e below (T61.setTop (mkF m 93 #[.val (.long p1), .second, .val (.long p2), .second, .val (.long (p1 &&& (9223372036854775807 : Int64))), .second, .val (.ref b52), .val (.int (1 : Int32)), .val (.ref b58_b56), .unset] [])) _
      refine XS.lload X61.here hx rfl (hb hby at_93) rfl ?_
      show Steps p.tables e below (T61.setTop (mkF m 95 #[.val (.long p1), .second, .val (.long p2), .second, .val (.long (p1 &&& (9223372036854775807 : Int64))), .second, .val (.ref b52), .val (.int (1 : Int32)), .val (.ref b58_b56), .unset] [(.long (p1 &&& (9223372036854775807 : Int64)))])) _
      refine XS.lconst X61.here hx rfl (hb hby at_95) ?_
      show Steps p.tables e below (T61.setTop (mkF m 96 #[.val (.long p1), .second, .val (.long p2), .second, .val (.long (p1 &&& (9223372036854775807 : Int64))), .second, .val (.ref b52), .val (.int (1 : Int32)), .val (.ref b58_b56), .unset] [(.long (0 : Int64)), (.long (p1 &&& (9223372036854775807 : Int64)))])) _
      refine XS.lcmp X61.here hx rfl (hb hby at_96) rfl ?_
      show Steps p.tables e below (T61.setTop (mkF m 97 #[.val (.long p1), .second, .val (.long p2), .second, .val (.long (p1 &&& (9223372036854775807 : Int64))), .second, .val (.ref b52), .val (.int (1 : Int32)), .val (.ref b58_b56), .unset] [(.int (lcmpW (p1 &&& (9223372036854775807 : Int64)) (0 : Int64)))])) _
      refine XS.ifNo X61.here hx rfl (hb hby at_97) rfl ((if0 _ _).trans (feq hp_24).1) ?_
      show Steps p.tables e below (T61.setTop (mkF m 100 #[.val (.long p1), .second, .val (.long p2), .second, .val (.long (p1 &&& (9223372036854775807 : Int64))), .second, .val (.ref b52), .val (.int (1 : Int32)), .val (.ref b58_b56), .unset] [])) _
      refine XS.lload X61.here hx rfl (hb hby at_100) rfl ?_
      show Steps p.tables e below (T61.setTop (mkF m 102 #[.val (.long p1), .second, .val (.long p2), .second, .val (.long (p1 &&& (9223372036854775807 : Int64))), .second, .val (.ref b52), .val (.int (1 : Int32)), .val (.ref b58_b56), .unset] [(.long (p1 &&& (9223372036854775807 : Int64)))])) _
      refine st72 _ ?_
      show Steps p.tables e below (T72.setTop (mkF m 105 #[.val (.long p1), .second, .val (.long p2), .second, .val (.long (p1 &&& (9223372036854775807 : Int64))), .second, .val (.ref b52), .val (.int (1 : Int32)), .val (.ref b58_b56), .unset] [(.ref b72_b62)])) _
      refine XS.astore X72.here hx rfl (hb hby at_105) rfl rfl (l' := #[.val (.long p1), .second, .val (.long p2), .second, .val (.long (p1 &&& (9223372036854775807 : Int64))), .second, .val (.ref b52), .val (.int (1 : Int32)), .val (.ref b58_b56), .val (.ref b72_b62)]) rfl ?_
      show Steps p.tables e below (T72.setTop (mkF m 107 #[.val (.long p1), .second, .val (.long p2), .second, .val (.long (p1 &&& (9223372036854775807 : Int64))), .second, .val (.ref b52), .val (.int (1 : Int32)), .val (.ref b58_b56), .val (.ref b72_b62)] [])) _
      refine XS.iload X72.here hx rfl (hb hby at_107) rfl ?_
      show Steps p.tables e below (T72.setTop (mkF m 109 #[.val (.long p1), .second, .val (.long p2), .second, .val (.long (p1 &&& (9223372036854775807 : Int64))), .second, .val (.ref b52), .val (.int (1 : Int32)), .val (.ref b58_b56), .val (.ref b72_b62)] [(.int (1 : Int32))])) _
      refine XS.ifNo X72.here hx rfl (hb hby at_109) rfl ((if0 _ _).trans (feq (by decide : ¬ ((1 : Int32) = (0 : Int32)))).1) ?_
      show Steps p.tables e below (T72.setTop (mkF m 112 #[.val (.long p1), .second, .val (.long p2), .second, .val (.long (p1 &&& (9223372036854775807 : Int64))), .second, .val (.ref b52), .val (.int (1 : Int32)), .val (.ref b58_b56), .val (.ref b72_b62)] [])) _
      refine XS.aload X72.here hx rfl (hb hby at_112) rfl rfl ?_
      show Steps p.tables e below (T72.setTop (mkF m 114 #[.val (.long p1), .second, .val (.long p2), .second, .val (.long (p1 &&& (9223372036854775807 : Int64))), .second, .val (.ref b52), .val (.int (1 : Int32)), .val (.ref b58_b56), .val (.ref b72_b62)] [(.ref b72_b62)])) _
      refine st73.trans ?_
      show Steps p.tables e below (T73.setTop (mkF m 117 #[.val (.long p1), .second, .val (.long p2), .second, .val (.long (p1 &&& (9223372036854775807 : Int64))), .second, .val (.ref b52), .val (.int (1 : Int32)), .val (.ref b58_b56), .val (.ref b72_b62)] [(.int (1 : Int32))])) _
      refine XS.ifNo X73.here hx rfl (hb hby at_117) rfl ((if0 _ _).trans (feq (by decide : ¬ ((1 : Int32) = (0 : Int32)))).1) ?_
      show Steps p.tables e below (T73.setTop (mkF m 120 #[.val (.long p1), .second, .val (.long p2), .second, .val (.long (p1 &&& (9223372036854775807 : Int64))), .second, .val (.ref b52), .val (.int (1 : Int32)), .val (.ref b58_b56), .val (.ref b72_b62)] [])) _
      refine XS.iconst X73.here hx rfl (hb hby at_120) ?_
      show Steps p.tables e below (T73.setTop (mkF m 121 #[.val (.long p1), .second, .val (.long p2), .second, .val (.long (p1 &&& (9223372036854775807 : Int64))), .second, .val (.ref b52), .val (.int (1 : Int32)), .val (.ref b58_b56), .val (.ref b72_b62)] [(.int (1 : Int32))])) _
      refine XS.goto X73.here hx rfl (pc0 := 121) (pc' := 125) rfl (hb hby at_121) (by decide) (by decide) ?_
      show Steps p.tables e below (T73.setTop (mkF m 125 #[.val (.long p1), .second, .val (.long p2), .second, .val (.long (p1 &&& (9223372036854775807 : Int64))), .second, .val (.ref b52), .val (.int (1 : Int32)), .val (.ref b58_b56), .val (.ref b72_b62)] [(.int (1 : Int32))])) _
      refine XS.istore X73.here hx rfl (hb hby at_125) rfl (l' := #[.val (.long p1), .second, .val (.long p2), .second, .val (.long (p1 &&& (9223372036854775807 : Int64))), .second, .val (.ref b52), .val (.int (1 : Int32)), .val (.ref b58_b56), .val (.ref b72_b62)]) rfl ?_
      show Steps p.tables e below (T73.setTop (mkF m 127 #[.val (.long p1), .second, .val (.long p2), .second, .val (.long (p1 &&& (9223372036854775807 : Int64))), .second, .val (.ref b52), .val (.int (1 : Int32)), .val (.ref b58_b56), .val (.ref b72_b62)] [])) _
      refine XS.iload X73.here hx rfl (hb hby at_127) rfl ?_
      show Steps p.tables e below (T73.setTop (mkF m 129 #[.val (.long p1), .second, .val (.long p2), .second, .val (.long (p1 &&& (9223372036854775807 : Int64))), .second, .val (.ref b52), .val (.int (1 : Int32)), .val (.ref b58_b56), .val (.ref b72_b62)] [(.int (1 : Int32))])) _
      exact retN X73 hx (t := .boolean) Bd.returns (by simp) (hb hby at_129) hr
    · show LQ n0 _ T73.heap _
      exact ⟨rfl, N73, trivial⟩
set_option maxRecDepth 65536 in
set_option maxHeartbeats 40000000 in
theorem comes_1 {Post : Tables → Env → Array Value → State → Outcome → State → Prop} (hpost : ∀ tb e args s v u, (limb_1_1.after args s (.returned v) u = true ∧ limb_1_2.after args s (.returned v) u = true ∧ True) → FrameEnd s (.returned v) u (Jvm.fieldLocs frame_1_writes args s ++ Jvm.arrayLocs frame_1_arrays args s ++ Jvm.staticLocs frame_1_statics s) 16 128 → Post tb e args s (.returned v) u) :
    ArmFor flags0 classFile x code maxLocals ret World_1 tables_1 room_1 Calls_1 rest_1 Pre_1 Post := by
  intro l hfl _ _ p e ha hc hk s m args below hf hA hF happ hP
  obtain ⟨hcalls, hrest, hpre⟩ := hP
  obtain ⟨-, -, -, hnamed, -, -, -, hat⟩ := (Spec.applies_iff hf).mp happ
  obtain ⟨hg, hn⟩ := and_e (Cond.before_iff.mp (show (Jvm.Cond.and given_1 narrow_1).before args s = true from hpre))
  obtain ⟨gA0, gB0⟩ := and_e hg
  obtain ⟨gA1, gB1⟩ := and_e gB0
  obtain ⟨w0, w1, rfl⟩ : ∃ w0 w1 : Value, args = #[w0, w1] := by
    have hs : args.size = 2 := by simpa [Cond.value, given_1] using gA0
    obtain ⟨L⟩ := args
    match L, hs with
    | [w0, w1], _ => exact ⟨w0, w1, rfl⟩
  have hw := fun d (hd : d ∈ tables_1) => atoms_spec (ws := Jvm.Cond.code x code maxLocals ret :: tables_1) hat d (List.mem_cons_of_mem _ hd)
  have hfit : Fit s := fun {y c} hc i hi => by
    obtain ⟨ha, rfl⟩ := Array.getElem?_eq_some_iff.mp hc
    have q := List.all_eq_true.mp ((Array.all_eq_true_iff_forall_mem.mp hF) _ (Array.getElem_mem ha)) i (List.mem_range.mpr hi)
    simpa [Array.getElem?_eq_getElem hi] using q
  obtain ⟨i0, ei0⟩ := isL_v gA1
  obtain rfl : w0 = (.long i0) := Option.some.inj ei0
  obtain ⟨i1, ei1⟩ := isL_v gB1
  obtain rfl : w1 = (.long i1) := Option.some.inj ei1
  obtain ⟨hx0, hr0⟩ := and_e hn
  obtain ⟨aS0, eS0⟩ := exa_v hx0
  have EN : own_St s (fun n => [aS0].getD n 0) (fun n => [].getD n 0) := ⟨⟨Sta.start eS0 (Or.inr ⟨(hw _ (List.mem_of_getElem? (i := 3) rfl)), (hw _ (List.mem_of_getElem? (i := 30) rfl))⟩), Exa.start eS0 hx0, own_fld eS0 (own_eqv (long_at _) hr0), trivial⟩, trivial⟩
  obtain ⟨n, o, h1, h2, h3, _, L, rfl, hQ, hq⟩ := rm0 l s _ hw tables_1 s.heap s.heap.size i0 i1 (fun n => [aS0].getD n 0) (fun n => [].getD n 0) EN (Old.start s) p e ha hc hk s m _ below hf ((Spec.applies_iff_loose hf).mp happ).1 ⟨rfl, State.Warmed39.refl s, rfl⟩ trivial
  obtain ⟨rfl, N, -⟩ := hQ
  refine ⟨n, _, h1, h2, h3, hpost _ _ _ _ _ _ ⟨Cond.after_iff.mpr rfl, Cond.after_iff.mpr (eq_i res_at (Term.int_eval (1)) rfl), trivial⟩ ⟨hq.1, hq.2.1, (hq.2.2.sift fun y hy => Or.inr (N y hy)).mono (by decide) (by decide)⟩⟩
theorem main_1_1 : Claimed_1_1 := comes_1 fun _ _ _ _ _ _ h hF => ⟨h.1, hF⟩
theorem main_1_2 : Claimed_1_2 := comes_1 fun _ _ _ _ _ _ h hF => ⟨h.2.1, hF⟩
end Jvm.Pilot.@@N@@
namespace Jvm.Pilot.@@N@@
open Jvm Jvm.ClassFile Sem Op Lib Jvm.Free Jvm.Stand Jvm.Pilot.@@N@@.Jvm.D
/-! MADE BY PROGRAM (witnessworld.py) out of the Statement's table words and the real class files: 10 classes; the members and pool entries that the words name. The judged class is class 1, her method 1. -/
namespace start1
open Jvm.ClassFile
def u (s : String) : CpInfo := .utf8 (stringToUtf16 s)
/-- a pool by its gaps: so many unusable entries, then the entry; so many at the end -/
def gap : Nat → List CpInfo → List CpInfo
  | 0, r => r
  | n + 1, r => .unusable :: gap n r
def poolList (es : List (Nat × CpInfo)) (last : Nat) : List CpInfo := es.foldr (fun e r => gap e.1 (e.2 :: r)) (gap last [])
def pool (es : List (Nat × CpInfo)) (last : Nat) : Array CpInfo := ⟨poolList es last⟩
def fileOf (pool : Array CpInfo) (this : Nat) (attrs : Array Attribute := #[]) (ms : Array MethodInfo := #[]) (fl : Nat := 33) (sup : Nat := 0) (ifs : Array Nat := #[]) (fds : Array FieldInfo := #[]) : ClassFile where
  minorVersion := 0
  majorVersion := 65
  constantPool := pool
  accessFlags := fl
  thisClass := this
  superClass := sup
  interfaces := ifs
  fields := fds
  methods := ms
  attributes := attrs
def plain (name : String) (sup : Option ClassId) : Class where
  name := name
  kind := .ordinary
  loader := none
  accessFlags := 33
  super := sup
  interfaces := #[]
  cf := none
  fields := #[]
  methods := #[]
  instanceTypes := #[]
  staticTypes := #[]
  resolved := #[]
  callSites := []
  init := .initialized
  statics := none
  mirror := none

def pool0 : Array CpInfo := pool [(5, u "<init>"), (0, u "()V"), (1, .class_ 10), (1, u "java/lang/Object")] 113

def k0c0 : Code := { maxStack := 0, maxLocals := 1, code := object_method_1_code, exceptionTable := #[], attributes := #[] }
def k0m0 : Method := { name := "<init>", desc := "()V", sig := { parameters := [], returnType := none }, accessFlags := 1, code := some k0c0 }
/-- java/lang/Object -/
def k0 : Class := { plain "java/lang/Object" none with
  accessFlags := 33
  interfaces := #[]
  cf := some (fileOf pool0 8 #[] #[{ accessFlags := 1, nameIndex := 5, descriptorIndex := 6, attributes := #[] }] 33 0 #[] #[])
  fields := #[]
  methods := #[k0m0]
  instanceTypes := #[]
  staticTypes := #[]
  resolved := Array.replicate 124 none
  statics := none }

def pool1 : Array CpInfo := pool [(2, .class_ 4), (1, u "java/lang/Object"), (0, u "<init>"), (0, u "()V"), (2, .long 9223372036854775807), (1, .class_ 12), (0, u "com/example/hangslot/hangslot/LockStore$Acquisition"), (0, .methodref 11 14), (0, .nameAndType 5 15), (0, u "(JJ)V"), (0, .methodref 11 17), (0, .nameAndType 18 19), (0, u "taken"), (0, u "()Z"), (0, .methodref 11 21), (0, .nameAndType 22 23), (0, u "refused"), (0, u "(J)Lcom/example/hangslot/hangslot/LockStore$Acquisition;"), (0, .fieldref 11 25), (0, .nameAndType 26 27), (0, u "REFUSED"), (0, u "Lcom/example/hangslot/hangslot/LockStore$Acquisition;"), (0, .methodref 11 29), (0, .nameAndType 18 23), (0, .class_ 31), (0, u "com/example/hangslot/hangslot/AcquisitionTakenPinLaw"), (2, u "law"), (0, u "(JJ)Z")] 7

def k1m0 : Method := { name := "<init>", desc := "()V", sig := { parameters := [], returnType := none }, accessFlags := 1, code := none }
def k1c1 : Code := { maxStack := 6, maxLocals := 10, code := code, exceptionTable := #[], attributes := #[] }
def k1m1 : Method := { name := "law", desc := "(JJ)Z", sig := { parameters := [.long, .long], returnType := some .boolean }, accessFlags := 9, code := some k1c1 }
/-- com/example/hangslot/hangslot/AcquisitionTakenPinLaw -/
def k1 : Class := { plain "com/example/hangslot/hangslot/AcquisitionTakenPinLaw" (some 0) with
  accessFlags := 49
  interfaces := #[]
  cf := some (fileOf pool1 30 #[] #[{ accessFlags := 1, nameIndex := 5, descriptorIndex := 6, attributes := #[] }, { accessFlags := 9, nameIndex := 34, descriptorIndex := 35, attributes := #[] }] 49 2 #[] #[])
  fields := #[]
  methods := #[k1m0, k1m1]
  instanceTypes := #[]
  staticTypes := #[]
  resolved := Array.replicate 43 none
  statics := none }

def pool2 : Array CpInfo := pool [(1, .methodref 2 3), (0, .class_ 4), (0, .nameAndType 5 6), (0, u "java/lang/Object"), (0, u "<init>"), (0, u "()V"), (0, .class_ 8), (0, u "java/lang/Record")] 13

def k2c0 : Code := { maxStack := 1, maxLocals := 1, code := jdk_30_method_1_code, exceptionTable := #[], attributes := #[] }
def k2m0 : Method := { name := "<init>", desc := "()V", sig := { parameters := [], returnType := none }, accessFlags := 4, code := some k2c0 }
/-- java/lang/Record -/
def k2 : Class := { plain "java/lang/Record" (some 0) with
  accessFlags := 1057
  interfaces := #[]
  cf := some (fileOf pool2 7 #[] #[{ accessFlags := 4, nameIndex := 5, descriptorIndex := 6, attributes := #[] }] 1057 2 #[] #[])
  fields := #[]
  methods := #[k2m0]
  instanceTypes := #[]
  staticTypes := #[]
  resolved := Array.replicate 22 none
  statics := none }

def pool3 : Array CpInfo := pool [(1, .methodref 2 3), (0, .class_ 4), (0, .nameAndType 5 6), (0, u "java/lang/Record"), (0, u "<init>"), (0, u "()V"), (0, .fieldref 8 9), (0, .class_ 10), (0, .nameAndType 11 12), (0, u "com/example/hangslot/hangslot/LockStore$Acquisition"), (0, u "fencingToken"), (0, u "J"), (0, .fieldref 8 14), (0, .nameAndType 15 12), (0, u "millisUntilFree"), (0, .long 18446744073709551615), (1, .methodref 8 19), (0, .nameAndType 5 20), (0, u "(JJ)V"), (14, u "REFUSED"), (0, u "Lcom/example/hangslot/hangslot/LockStore$Acquisition;"), (0, u "UNKNOWN"), (4, u "taken"), (0, u "(J)Lcom/example/hangslot/hangslot/LockStore$Acquisition;"), (0, u "refused"), (0, u "()Z"), (9, .class_ 56), (0, u "com/example/hangslot/hangslot/LockStore")] 20

def k3c0 : Code := { maxStack := 3, maxLocals := 5, code := prog_8_method_1_code, exceptionTable := #[], attributes := #[] }
def k3m0 : Method := { name := "<init>", desc := "(JJ)V", sig := { parameters := [.long, .long], returnType := none }, accessFlags := 1, code := some k3c0 }
def k3c1 : Code := { maxStack := 6, maxLocals := 2, code := prog_8_method_2_code, exceptionTable := #[], attributes := #[] }
def k3m1 : Method := { name := "taken", desc := "(J)Lcom/example/hangslot/hangslot/LockStore$Acquisition;", sig := { parameters := [.long], returnType := some (.object "com/example/hangslot/hangslot/LockStore$Acquisition") }, accessFlags := 8, code := some k3c1 }
def k3c2 : Code := { maxStack := 6, maxLocals := 2, code := prog_8_method_3_code, exceptionTable := #[], attributes := #[] }
def k3m2 : Method := { name := "refused", desc := "(J)Lcom/example/hangslot/hangslot/LockStore$Acquisition;", sig := { parameters := [.long], returnType := some (.object "com/example/hangslot/hangslot/LockStore$Acquisition") }, accessFlags := 8, code := some k3c2 }
def k3c3 : Code := { maxStack := 4, maxLocals := 1, code := prog_8_method_4_code, exceptionTable := #[], attributes := #[] }
def k3m3 : Method := { name := "taken", desc := "()Z", sig := { parameters := [], returnType := some .boolean }, accessFlags := 0, code := some k3c3 }
/-- com/example/hangslot/hangslot/LockStore$Acquisition -/
def k3 : Class := { plain "com/example/hangslot/hangslot/LockStore$Acquisition" (some 2) with
  accessFlags := 49
  interfaces := #[]
  cf := some (fileOf pool3 8 #[.nestHost 55] #[{ accessFlags := 1, nameIndex := 5, descriptorIndex := 20, attributes := #[] }, { accessFlags := 8, nameIndex := 42, descriptorIndex := 43, attributes := #[] }, { accessFlags := 8, nameIndex := 44, descriptorIndex := 43, attributes := #[] }, { accessFlags := 0, nameIndex := 42, descriptorIndex := 45, attributes := #[] }] 49 2 #[] #[{ accessFlags := 18, nameIndex := 11, descriptorIndex := 12, attributes := #[] }, { accessFlags := 18, nameIndex := 15, descriptorIndex := 12, attributes := #[] }, { accessFlags := 24, nameIndex := 37, descriptorIndex := 12, attributes := #[] }, { accessFlags := 24, nameIndex := 35, descriptorIndex := 36, attributes := #[] }])
  fields := #[{ name := "fencingToken", type := .long, accessFlags := 18, slot := 0, constantValue := 0 }, { name := "millisUntilFree", type := .long, accessFlags := 18, slot := 1, constantValue := 0 }, { name := "UNKNOWN", type := .long, accessFlags := 24, slot := 0, constantValue := 0 }, { name := "REFUSED", type := (.object "com/example/hangslot/hangslot/LockStore$Acquisition"), accessFlags := 24, slot := 1, constantValue := 0 }]
  methods := #[k3m0, k3m1, k3m2, k3m3]
  instanceTypes := #[.long, .long]
  staticTypes := #[.long, (.object "com/example/hangslot/hangslot/LockStore$Acquisition")]
  resolved := Array.replicate 77 none
  statics := some 0 }

def pool4 : Array CpInfo := pool [(1, u "java/lang/Cloneable"), (0, .class_ 1), (0, u "java/lang/Object"), (0, .class_ 3)] 3

/-- java/lang/Cloneable -/
def k4 : Class := { plain "java/lang/Cloneable" (some 0) with
  accessFlags := 1537
  interfaces := #[]
  cf := some (fileOf pool4 2 #[] #[] 1537 4 #[] #[])
  fields := #[]
  methods := #[]
  instanceTypes := #[]
  staticTypes := #[]
  resolved := Array.replicate 8 none
  statics := none }

def pool5 : Array CpInfo := pool [(1, u "java/io/Serializable"), (0, .class_ 1), (0, u "java/lang/Object"), (0, .class_ 3)] 3

/-- java/io/Serializable -/
def k5 : Class := { plain "java/io/Serializable" (some 0) with
  accessFlags := 1537
  interfaces := #[]
  cf := some (fileOf pool5 2 #[] #[] 1537 4 #[] #[])
  fields := #[]
  methods := #[]
  instanceTypes := #[]
  staticTypes := #[]
  resolved := Array.replicate 8 none
  statics := none }

/-- the primitive byte -/
def k6 : Class := { plain "byte" none with kind := .primitive 'B', accessFlags := 0x411 }
/-- [B -/
def k7 : Class := { plain "[B" (some 0) with kind := .array 6 .byte, interfaces := #[4, 5], accessFlags := 1041 }

/-- the primitive int -/
def k8 : Class := { plain "int" none with kind := .primitive 'I', accessFlags := 0x411 }
/-- [I -/
def k9 : Class := { plain "[I" (some 0) with kind := .array 8 .int, interfaces := #[4, 5], accessFlags := 1041 }

def heap : Heap := #[{ cls := 3, slots := #[.long 0, .ref 1], vm := .statics 3 },
  { cls := 3, slots := #[.long 0, .long 0], vm := .none }]
def classes : Array Class := #[k0, k1, k2, k3, k4, k5, k6, k7, k8, k9]
def interned : List (Array UInt16 × Addr) := []
def slotsUsed : Nat := 4
def theMethod : MethodId := ⟨1, 1⟩
def args0 : Array Value := #[.long 5, .long 7]
def aboutOver (below : List Frame) : State where
  vm := { classes := classes, interned := interned.toArray }
  heap := heap
  slotsUsed := slotsUsed
  threads := #[{ frames := .invoking theMethod args0 :: below }]
def below0 : List Frame := [.native { method := ⟨0, 0⟩, args := #[] }]
def about1 : State := aboutOver below0
def p0 : Program := .bare "" "" ""
def e0 : Env := launch0.env 0 0 0
theorem w_frames : about1.frames = Frame.invoking theMethod args0 :: below0 := rfl
set_option maxRecDepth 65536 in
theorem w_args : argsFit about1.vm theMethod args0 = true := by decide +kernel
set_option maxRecDepth 65536 in
theorem w_heap : heapFits about1 = true := by decide +kernel
set_option maxRecDepth 65536 in
theorem w_runnable : about1.curStatus? = some .runnable := by decide +kernel
set_option maxRecDepth 65536 in
theorem w_alone : about1.alone = true := by decide +kernel
set_option maxRecDepth 65536 in
theorem w_named : about1.methodNamed? x = some theMethod := by decide +kernel
set_option maxRecDepth 65536 in
theorem w_hears : about1.hears theMethod below0 = true := by decide +kernel
set_option maxRecDepth 65536 in
theorem w_ripe : about1.ripe theMethod args0 below0 = true := by decide +kernel
theorem w_running : about1.status = .running := rfl
set_option maxRecDepth 65536 in
theorem w_room : about1.hasRoom e0.platform room_1 = true :=
  launch0.hasRoom_least _ room_1 (by decide +kernel) (by decide +kernel) (by decide +kernel) (by decide +kernel) (by decide +kernel) (by decide +kernel)
theorem allAtoms_all (ts : List Jvm.Cond) (a : Array Jvm.Value) (st : Jvm.State) : (allAtoms ts).before a st = ts.all (fun c => c.before a st) := by
  induction ts with
  | nil => rfl
  | cons c t ih =>
    show (Jvm.Cond.and c (allAtoms t)).before a st = _
    rw [Jvm.Cond.before_and, ih, List.all_cons]
def words1 : List Jvm.Cond := Jvm.Cond.code x code maxLocals ret :: tables_1
/-- a 'code' word, met by the world's own term for the bytes: nothing is compared byte by byte -/
theorem code_word {y : MethodName} {bytes : ByteArray} {mx : Nat} {rt : Option FieldType} {a : Array Value} {s : State} {m : MethodId} {meth : Method} {c : Code} (h1 : s.methodNamed? y = some m) (h2 : s.vm.method? m = some meth) (h3 : meth.code = some c) (h4 : c.code = bytes)
    (h5 : (c.maxLocals == mx && c.exceptionTable.isEmpty && decide (c.maxStack ≤ mostOperands) && decide (meth.sig.returnType = rt) && !meth.locks && decide (parseMethodDescriptor y.desc = some meth.sig)) = true) : (Jvm.Cond.code y bytes mx rt).before a s = true := by
  simp only [Bool.and_eq_true, beq_iff_eq, Bool.not_eq_true', decide_eq_true_eq] at h5
  obtain ⟨⟨⟨⟨⟨g1, g2⟩, g3⟩, g4⟩, g5⟩, g6⟩ := h5
  simp [Cond.before, Cond.holds, Cond.value, h1, h2, h3, h4, g1, g2, g3, g4, g5, g6]
def isCode : Jvm.Cond → Bool
  | .code _ _ _ _ => true
  | _ => false
theorem all_split {L : List Jvm.Cond} {P : Jvm.Cond → Bool} (h1 : L.all (fun c => isCode c || P c) = true) (h2 : ∀ c ∈ L.filter isCode, P c = true) : L.all P = true := by
  refine List.all_eq_true.mpr fun c hc => ?_
  have h := List.all_eq_true.mp h1 c hc
  rcases Bool.eq_false_or_eq_true (isCode c) with hi | hi
  · exact h2 c (List.mem_filter.mpr ⟨hc, hi⟩)
  · simpa [hi] using h
set_option maxRecDepth 65536 in
theorem w_c0 : (Jvm.Cond.code x code maxLocals ret).before args0 about1 = true := code_word (m := ⟨1, 1⟩) (meth := k1m1) (c := k1c1) (by decide +kernel) rfl rfl rfl (by decide +kernel)
set_option maxRecDepth 65536 in
theorem w_c1 : (Jvm.Cond.code ({ cls := "com/example/hangslot/hangslot/LockStore$Acquisition", name := "<init>", desc := "(JJ)V" } : Jvm.MethodName) prog_8_method_1_code (5 : Nat) (Option.none : Option Jvm.ClassFile.FieldType)).before args0 about1 = true := code_word (m := ⟨3, 0⟩) (meth := k3m0) (c := k3c0) (by decide +kernel) rfl rfl rfl (by decide +kernel)
set_option maxRecDepth 65536 in
theorem w_c2 : (Jvm.Cond.code ({ cls := "java/lang/Record", name := "<init>", desc := "()V" } : Jvm.MethodName) jdk_30_method_1_code (1 : Nat) (Option.none : Option Jvm.ClassFile.FieldType)).before args0 about1 = true := code_word (m := ⟨2, 0⟩) (meth := k2m0) (c := k2c0) (by decide +kernel) rfl rfl rfl (by decide +kernel)
set_option maxRecDepth 65536 in
theorem w_c3 : (Jvm.Cond.code ({ cls := "java/lang/Object", name := "<init>", desc := "()V" } : Jvm.MethodName) object_method_1_code (1 : Nat) (Option.none : Option Jvm.ClassFile.FieldType)).before args0 about1 = true := code_word (m := ⟨0, 0⟩) (meth := k0m0) (c := k0c0) (by decide +kernel) rfl rfl rfl (by decide +kernel)
set_option maxRecDepth 65536 in
theorem w_c4 : (Jvm.Cond.code ({ cls := "com/example/hangslot/hangslot/LockStore$Acquisition", name := "taken", desc := "()Z" } : Jvm.MethodName) prog_8_method_4_code (1 : Nat) (Option.some Jvm.ClassFile.FieldType.boolean)).before args0 about1 = true := code_word (m := ⟨3, 3⟩) (meth := k3m3) (c := k3c3) (by decide +kernel) rfl rfl rfl (by decide +kernel)
set_option maxRecDepth 65536 in
theorem w_c5 : (Jvm.Cond.code ({ cls := "com/example/hangslot/hangslot/LockStore$Acquisition", name := "refused", desc := "(J)Lcom/example/hangslot/hangslot/LockStore$Acquisition;" } : Jvm.MethodName) prog_8_method_3_code (2 : Nat) (Option.some (Jvm.ClassFile.FieldType.object "com/example/hangslot/hangslot/LockStore$Acquisition"))).before args0 about1 = true := code_word (m := ⟨3, 2⟩) (meth := k3m2) (c := k3c2) (by decide +kernel) rfl rfl rfl (by decide +kernel)
set_option maxRecDepth 65536 in
theorem w_c6 : (Jvm.Cond.code ({ cls := "com/example/hangslot/hangslot/LockStore$Acquisition", name := "taken", desc := "(J)Lcom/example/hangslot/hangslot/LockStore$Acquisition;" } : Jvm.MethodName) prog_8_method_2_code (2 : Nat) (Option.some (Jvm.ClassFile.FieldType.object "com/example/hangslot/hangslot/LockStore$Acquisition"))).before args0 about1 = true := code_word (m := ⟨3, 1⟩) (meth := k3m1) (c := k3c1) (by decide +kernel) rfl rfl rfl (by decide +kernel)
def codes1 : List Jvm.Cond := [Jvm.Cond.code x code maxLocals ret, Jvm.Cond.code ({ cls := "com/example/hangslot/hangslot/LockStore$Acquisition", name := "<init>", desc := "(JJ)V" } : Jvm.MethodName) prog_8_method_1_code (5 : Nat) (Option.none : Option Jvm.ClassFile.FieldType), Jvm.Cond.code ({ cls := "java/lang/Record", name := "<init>", desc := "()V" } : Jvm.MethodName) jdk_30_method_1_code (1 : Nat) (Option.none : Option Jvm.ClassFile.FieldType), Jvm.Cond.code ({ cls := "java/lang/Object", name := "<init>", desc := "()V" } : Jvm.MethodName) object_method_1_code (1 : Nat) (Option.none : Option Jvm.ClassFile.FieldType), Jvm.Cond.code ({ cls := "com/example/hangslot/hangslot/LockStore$Acquisition", name := "taken", desc := "()Z" } : Jvm.MethodName) prog_8_method_4_code (1 : Nat) (Option.some Jvm.ClassFile.FieldType.boolean), Jvm.Cond.code ({ cls := "com/example/hangslot/hangslot/LockStore$Acquisition", name := "refused", desc := "(J)Lcom/example/hangslot/hangslot/LockStore$Acquisition;" } : Jvm.MethodName) prog_8_method_3_code (2 : Nat) (Option.some (Jvm.ClassFile.FieldType.object "com/example/hangslot/hangslot/LockStore$Acquisition")), Jvm.Cond.code ({ cls := "com/example/hangslot/hangslot/LockStore$Acquisition", name := "taken", desc := "(J)Lcom/example/hangslot/hangslot/LockStore$Acquisition;" } : Jvm.MethodName) prog_8_method_2_code (2 : Nat) (Option.some (Jvm.ClassFile.FieldType.object "com/example/hangslot/hangslot/LockStore$Acquisition"))]
set_option maxRecDepth 65536 in
theorem codes_eq : words1.filter isCode = codes1 := rfl
theorem w_codes : ∀ c ∈ words1.filter isCode, c.before args0 about1 = true := by
  rw [codes_eq]
  intro c hc
  simp only [codes1, List.mem_cons, List.not_mem_nil, or_false] at hc
  rcases hc with rfl | rfl | rfl | rfl | rfl | rfl | rfl
  · exact w_c0
  · exact w_c1
  · exact w_c2
  · exact w_c3
  · exact w_c4
  · exact w_c5
  · exact w_c6
set_option maxRecDepth 65536 in
theorem w_t1 : (words1.take 24).all (fun c => isCode c || c.before args0 about1) = true := by decide +kernel
set_option maxRecDepth 65536 in
theorem w_t2 : (words1.drop 24).all (fun c => isCode c || c.before args0 about1) = true := by decide +kernel
theorem w_tables : (allAtoms (Jvm.Cond.code x code maxLocals ret :: tables_1)).before args0 about1 = true := by
  rw [allAtoms_all]
  show words1.all (fun c => c.before args0 about1) = true
  refine all_split ?_ w_codes
  rw [← List.take_append_drop 24 words1, List.all_append, w_t1, w_t2]
  rfl
set_option maxRecDepth 65536 in
theorem w_case : (Jvm.Cond.and given_1 narrow_1).before args0 about1 = true := by decide +kernel
theorem w_applies : (headSpec (Jvm.Cond.code x code maxLocals ret :: tables_1) room_1).applies x e0.platform about1 = true :=
  (Spec.applies_iff w_frames).mpr ⟨w_running, w_runnable, w_alone, w_named, w_hears, w_ripe, w_room, w_tables⟩
theorem atStart : AtStart classFile x code maxLocals ret World_1 tables_1 room_1 Calls_1 rest_1 Pre_1 launch0 p0 e0 about1 theMethod args0 below0 :=
  ⟨lists_1, trivial, launch0.admits_env _ _ _, launch0.least_env, fairChoices_fair.cas, fairChoices_fair.clock, w_frames, w_args, w_heap, w_applies, trivial, trivial, w_case⟩
end start1
theorem witness_1 : WitnessClaimed_1 := ⟨start1.p0, start1.e0, start1.about1, start1.theMethod, start1.args0, start1.below0, start1.atStart⟩
end Jvm.Pilot.@@N@@
