import JvmDerived
import JvmDerived.Pilot.@@N@@Statement
import JvmDerived.Pilot.@@N@@Code
set_option linter.unusedVariables false
set_option linter.unusedSimpArgs false
namespace Jvm.RoadKit
open Sem ClassFile Op Lib Jvm.Stand Jvm.Free Jvm.LawKit
section New
variable {p : Program} {l : Launch} {e : Env} {R : Room} {s : State} {m : MethodId} {args : Array Value} {below : List Frame} {meth : Method} {c : Code} {T : State} {locs : List Loc} {cells slots : Nat}
theorem retI (X : Stand p l e R s m args below meth c T locs cells slots) (hx : p.tables.exec = Jvm.exec) {pc : Nat} {Ls : Array Slot} {z : Int32} {rest : List Value} (hret : meth.sig.returnType = some .int) (hd : decode c.code pc = .ok (.ireturn, 1)) {fs : List Frame}
    (hl : ∀ (f : JFrame) (acts : List Action), f.method = m → f.locked = none → f.entered = [] → (doReturn e (T.setTop f) acts (some (.int z))).1 = T.setFrames fs) : Steps p.tables e below (T.setTop (mkF m pc Ls (.int z :: rest))) (T.setFrames fs) :=
  retOut X hx hret rfl (Or.inl ⟨rfl, Or.inl rfl, _, rfl⟩) hd hl
end New
end Jvm.RoadKit
namespace Jvm.Pilot.@@N@@
open Jvm Jvm.ClassFile Sem Op Lib Jvm.Free Jvm.Stand Jvm.LawKit Jvm.RoadKit Bundle Jvm.Pilot.@@N@@.Jvm.D
/-- what a body that writes nothing leaves: its value, no place written, the heap as it was -/
def PQ (w : Option Value) (h0 : Heap) (n0 : Nat) (v : Option Value) (h : Heap) (L : List Loc) : Prop := v = w ∧ Fr n0 L ∧ h = h0
def LQ (n0 : Nat) (v : Option Value) (h : Heap) (L : List Loc) : Prop := v = some (.int (1 : Int32)) ∧ Fr n0 L ∧ True
theorem own_pd0 : parseMethodDescriptor "()V" = some ⟨[], none⟩ := by decide +kernel
theorem own_pd1 : parseMethodDescriptor "(JJ)V" = some ⟨[.long, .long], none⟩ := by decide +kernel
theorem own_pd2 : parseMethodDescriptor "(J)Lcom/example/hangslot/hangslot/LockStore$Acquisition;" = some ⟨[.long], some (.object "com/example/hangslot/hangslot/LockStore$Acquisition")⟩ := by decide +kernel
theorem own_pd3 : parseMethodDescriptor "()J" = some ⟨[], some .long⟩ := by decide +kernel
theorem own_pd4 : parseMethodDescriptor "()Z" = some ⟨[], some .boolean⟩ := by decide +kernel
theorem own_lc (x : Int64) : (lcmpW x x) = (0 : Int32) := (lw_eq x x).mpr rfl
theorem own_eqv {s : State} {args : Array Value} {t u : Term} {w : Value} (hu : u.eval args s none [] s = some w) (h : (Cond.eq t u).value args s none s [] = some true) (hk : (match w with | .retAddr _ => false | .float _ => false | .double _ => false | _ => true) = true := by rfl) : t.eval args s none [] s = some w := by
  obtain ⟨x, y, e1, e2, -, -⟩ := cmp_v (Or.inl h)
  cases hu.symm.trans e2
  rw [e1]
  simp only [Cond.value, e1, hu] at h
  cases x <;> cases w <;> simp at h hk ⊢ <;> exact h
theorem own_fld {s : State} {args : Array Value} {t : Term} {C n d : String} {a : Addr} {v : Value} (ht : t.eval args s none [] s = some (.ref a)) (h : (Term.field t C n d).eval args s none [] s = some v) : Fld s s.heap a C n d v := Fld.start ((fld_at ht).symm.trans h)
theorem own_len {s : State} {args : Array Value} {t : Term} {ty : FieldType} {a : Addr} {n : Int32} (ht : t.eval args s none [] s = some (.ref a)) (ha : (Cond.arrayOf t ty).value args s none s [] = some true) (hl : (Cond.eq (.length t) (.int n)).value args s none s [] = some true) (hn : ¬ n < 0) :
    ∃ c : Cell, Arr s s.heap a c ty ∧ c.slots.size < 2 ^ 31 ∧ c.slots.size.toInt32 = n := by
  obtain ⟨c, A⟩ := Arr.start ht ha
  have e := own_eqv (Term.int_eval n) hl
  have A2 := A.fin (Vm.Alike.refl _)
  obtain ⟨x, c2, e1, e2, e3⟩ := Term.length_spec e
  cases ht.symm.trans e1
  cases A2.symm.trans e2
  have h31 := SBG.length_lt ht A2 e
  refine ⟨c, A, h31, ?_⟩
  have := len_f ht A2 h31
  rw [e] at this
  simpa using (Option.some.inj this).symm
theorem own_elem {s : State} {args : Array Value} {t : Term} {ty : FieldType} {a : Addr} {c : Cell} {j : Int32} {v : Value} (ht : t.eval args s none [] s = some (.ref a)) (A : Arr s s.heap a c ty) (h : (Term.elem t (.int j)).eval args s none [] s = some v) : c.slots[j.toNatClampNeg]? = some v := (elem_in h ht (Term.int_eval j) A.1).2
theorem own_all0 {s : State} {args : Array Value} {t : Term} {ty : FieldType} {a : Addr} {c : Cell} {k n : Int32} (ht : ∀ idx, t.eval args s none idx s = some (.ref a)) (A : Arr s s.heap a c ty) (h31 : c.slots.size < 2 ^ 31) (hn : c.slots.size.toInt32 = n)
    (h : (Cond.all t (.or (.lt (.index 0) (.int k)) (.eq (.elem t (.index 0)) (.int 0)))).value args s none s [] = some true) (j : Nat) (hj : j < n.toNatClampNeg) (hk : ¬ j.toInt32 < k) : c.slots[j]? = some (.int 0) := by
  have A2 := A.fin (Vm.Alike.refl _)
  have hsz : n.toNatClampNeg = c.slots.size := by rw [← hn]; simp only [Int32.toNatClampNeg, len_toInt h31]; rfl
  have hj2 : j < c.slots.size := hsz ▸ hj
  have q := Cond.all_elim (ht []) A2 h j hj2
  have e1 : (Term.index 0).eval args s none [j] s = some (.int j.toInt32) := rfl
  have l1 : (Cond.lt (.index 0) (.int k)).value args s none s [j] = some false := by
    simp [Cond.value, e1, Term.int_eval, hk]
  have q2 : (Cond.eq (.elem t (.index 0)) (.int 0)).value args s none s [j] = some true := by
    have q3 : (match (Cond.lt (.index 0) (.int k)).value args s none s [j] with | some false => (Cond.eq (.elem t (.index 0)) (.int 0)).value args s none s [j] | x => x) = some true := q
    rw [l1] at q3
    exact q3
  obtain ⟨x, y, e2, e3, -, -⟩ := cmp_v (Or.inl q2)
  cases (Term.int_eval (args := args) (first := s) (o := none) (idx := [j]) (s := s) 0).symm.trans e3
  have e4 : (Term.elem t (.index 0)).eval args s none [j] s = some (.int 0) := by
    simp only [Cond.value, e2, e3] at q2
    rw [e2]; cases x <;> simp at q2 ⊢; exact q2
  have e5 := elem_in e4 (ht [j]) e1 A.1
  have e6 : (Nat.toInt32 j).toNatClampNeg = j := by simp only [Int32.toNatClampNeg, len_toInt (Nat.lt_trans hj2 h31)]; rfl
  rw [e6] at e5
  exact e5.2
theorem own_csne {s : State} {args : Array Value} {t : Term} {v : Int32} (e : t.eval args s none [] s = some (.int v)) (h : (Cond.not (.eq t (.int 0))).value args s none s [] = some true) : ¬ (v = (0 : Int32)) := by
  have q := not_v h
  intro hv
  subst hv
  have q2 := Cond.eq_ints e (Term.int_eval (args := args) (first := s) (o := none) (idx := []) (s := s) 0)
  rw [q2] at q
  simp at q
theorem own_orref {s : State} {args : Array Value} {C f d : String} (h : (Cond.isRef (.static C f d)).value args s none s [] = some true) (hi : (Cond.initializedFor C f d).before args s = true ∨ ((Cond.initialized C).before args s = true ∧ (Cond.laysStatic C f d).before args s = true)) : (Sta s s.heap C f d .null) ∨ (∃ a, Sta s s.heap C f d (.ref a)) := by
  obtain ⟨x, e, hr⟩ := isR_v h
  rcases ref_cases hr with rfl | ⟨a, rfl⟩
  · exact Or.inl (Sta.start e hi)
  · exact Or.inr ⟨a, Sta.start e hi⟩
def own_St (Z : State) (A : Nat → Addr) (K : Nat → ClassId) : Prop := True
theorem own_d_jdk_30_method_1_code_0 : decode jdk_30_method_1_code 0 = .ok (.aload_n 0, 1) := by decide +kernel
theorem own_d_jdk_30_method_1_code_1 : decode jdk_30_method_1_code 1 = .ok (.invokespecial 1, 3) := by decide +kernel
theorem own_d_jdk_30_method_1_code_4 : decode jdk_30_method_1_code 4 = .ok (.return_, 1) := by decide +kernel
theorem own_pn0 : plainName "java/lang/Record" = true := by first | (simp [plainName, overriddenIn]; done) | decide +kernel
theorem own_ef_rm3 (m : MethodId) (p1 : Int64) (A : Nat → Addr) (K : Nat → ClassId)  (b2 : Addr) : entryFrame m #[(.ref b2)] 1 = mkF m 0 #[.val (.ref b2)] [] := by first | (simp [entryFrame, mkF, argsToLocals, Value.category, maxLocals]; done) | rfl
set_option maxRecDepth 65536 in
set_option maxHeartbeats 40000000 in
theorem rm3 (l : Launch) (Z : State) (a0 : Array Value) (hw : ∀ d ∈ tables_1, d.before a0 Z = true) (ws : List Jvm.Cond) (h0 : Heap) (n0 : Nat) (p1 : Int64) (A : Nat → Addr) (K : Nat → ClassId)  (b2 : Addr) (EN : own_St Z A K) (OL0 : Old Z n0 h0) :
    MetFree l (⟨"java/lang/Record", "<init>", "()V"⟩ : MethodName) (head1 (Jvm.Cond.code (⟨"java/lang/Record", "<init>", "()V"⟩ : MethodName) jdk_30_method_1_code 1 none :: ws) ({ frames := 1, cells := 0, slots := 0, locals := 12 } : Room)) (fun a U => a = #[(.ref b2)] ∧ Z.Warmed39 U.vm ∧ U.heap = h0) (fun _ _ _ _ _ => True) (fun _ U o U' => ∃ v L, o = .returned v ∧ (PQ none h0 n0) v U'.heap L ∧ FrameEnd U o U' L ({ frames := 1, cells := 0, slots := 0, locals := 12 } : Room).cells ({ frames := 1, cells := 0, slots := 0, locals := 12 } : Room).slots) := by
  refine MetFree.of_bodySF (plainFor_of_name own_pn0) hisR ?_
  intro p e s m args below meth c s₁ Bd hml0 hP hK
  obtain ⟨rfl, hZ, hh⟩ := hP
  have hx := Bd.exec
  have hby := Bd.bytes
  have hml : c.maxLocals = 1 := hml0
  have hown : s.vm.findClass "java/lang/Record" = some m.cls := findClass_of_methodNamed Bd.named
  have hnm := (name_of_methodNamed Bd.named Bd.method).1
  have X0 : Stand p l e ({ frames := 1, cells := 0, slots := 0, locals := 12 } : Room) s m #[(.ref b2)] below meth c s₁ [] 0 0 := Stand.of_body Bd
  have e0 : s₁.heap = h0 := by rw [← hh, Bd.state]; rfl
  have N0 := Fr.nil n0
  have pre0 : ∀ t, Steps p.tables e below (s₁.setTop (mkF m 0 #[.val (.ref b2)] [])) t → Steps p.tables e below (s₁.setTop (entryFrame m #[(.ref b2)] 1)) t := fun t k => castTop (own_ef_rm3 m p1 A K b2) k
  have KK0 : Keep h0 h0 [] := Keep.refl _ _
  obtain ⟨T3, X3, e3, st3⟩ := initO X0 hx hZ hown (hw _ (List.mem_of_getElem? (i := 15) rfl)) (hw _ (List.mem_of_getElem? (i := 16) rfl)) (hw _ (List.mem_of_getElem? (i := 17) rfl)) e0 (g := (mkF m 1 #[.val (.ref b2)] [(.ref b2)])) rfl (by rw [hml]; rfl) rfl (hb hby own_d_jdk_30_method_1_code_1) (by decide) (W := 0) (by show 2 * 0 + _ ≤ _; exact Nat.le_of_eq rfl) (by decide)
  obtain ⟨fs, hr, hrun, hended, hW, hsame⟩ := X3.leave (v := none) (fun _ => rfl)
  refine ⟨_, _, pre0 _ ?_, hrun, hended, _, _, rfl, ?_, ⟨_, rfl⟩, hW, hsame.mono (by decide) (by decide)⟩
  · show Steps p.tables e below (s₁.setTop (mkF m 0 #[.val (.ref b2)] [])) _
    refine XS.aloadN X0.here hx rfl (hb hby own_d_jdk_30_method_1_code_0) rfl rfl ?_
    show Steps p.tables e below (s₁.setTop (mkF m 1 #[.val (.ref b2)] [(.ref b2)])) _
    refine st3 _ ?_
    show Steps p.tables e below (T3.setTop (mkF m 4 #[.val (.ref b2)] [])) _
    exact X3.returnOut hx Bd.returns (hb hby own_d_jdk_30_method_1_code_4) hr
  · show PQ none h0 n0 _ T3.heap _
    rw [e3]
    exact ⟨rfl, N0, rfl⟩
def Q_rm2 (Z : State) (p1 : Int64) (A : Nat → Addr) (K : Nat → ClassId) (b2 : Addr) (h0 : Heap) (n0 : Nat) (v : Option Value) (h : Heap) (L : List Loc) : Prop := v = none ∧ Fr n0 L ∧ Keep h0 h [b2] ∧ (Exa Z h b2 "com/example/hangslot/hangslot/LockStore$Acquisition") ∧ (Fld Z h b2 "com/example/hangslot/hangslot/LockStore$Acquisition" "fencingToken" "J" (.long p1)) ∧ (Fld Z h b2 "com/example/hangslot/hangslot/LockStore$Acquisition" "millisUntilFree" "J" (.long (-1 : Int64)))
theorem own_d_prog_8_method_1_code_0 : decode prog_8_method_1_code 0 = .ok (.aload_n 0, 1) := by decide +kernel
theorem own_d_prog_8_method_1_code_1 : decode prog_8_method_1_code 1 = .ok (.invokespecial 1, 3) := by decide +kernel
theorem own_d_prog_8_method_1_code_4 : decode prog_8_method_1_code 4 = .ok (.aload_n 0, 1) := by decide +kernel
theorem own_d_prog_8_method_1_code_5 : decode prog_8_method_1_code 5 = .ok (.lload_n 1, 1) := by decide +kernel
theorem own_d_prog_8_method_1_code_6 : decode prog_8_method_1_code 6 = .ok (.putfield 7, 3) := by decide +kernel
theorem own_d_prog_8_method_1_code_9 : decode prog_8_method_1_code 9 = .ok (.aload_n 0, 1) := by decide +kernel
theorem own_d_prog_8_method_1_code_10 : decode prog_8_method_1_code 10 = .ok (.lload_n 3, 1) := by decide +kernel
theorem own_d_prog_8_method_1_code_11 : decode prog_8_method_1_code 11 = .ok (.putfield 13, 3) := by decide +kernel
theorem own_d_prog_8_method_1_code_14 : decode prog_8_method_1_code 14 = .ok (.return_, 1) := by decide +kernel
theorem own_pn1 : plainName "com/example/hangslot/hangslot/LockStore$Acquisition" = true := by first | (simp [plainName, overriddenIn]; done) | decide +kernel
theorem own_ef_rm2 (m : MethodId) (p1 : Int64) (A : Nat → Addr) (K : Nat → ClassId)  (b2 : Addr) : entryFrame m #[(.ref b2), (.long p1), (.long (-1 : Int64))] 5 = mkF m 0 #[.val (.ref b2), .val (.long p1), .second, .val (.long (-1 : Int64)), .second] [] := by first | (simp [entryFrame, mkF, argsToLocals, Value.category, maxLocals]; done) | rfl
set_option maxRecDepth 65536 in
set_option maxHeartbeats 40000000 in
theorem rm2 (l : Launch) (Z : State) (a0 : Array Value) (hw : ∀ d ∈ tables_1, d.before a0 Z = true) (ws : List Jvm.Cond) (h0 : Heap) (n0 : Nat) (p1 : Int64) (A : Nat → Addr) (K : Nat → ClassId)  (b2 : Addr) (EN : own_St Z A K) (OL0 : Old Z n0 h0) (G_F_b2_com_example_hangslot_hangslot_LockStore_Acquisition_fencingToken : Fld Z h0 b2 "com/example/hangslot/hangslot/LockStore$Acquisition" "fencingToken" "J" (.long (0 : Int64))) (G_E_b2 : Exa Z h0 b2 "com/example/hangslot/hangslot/LockStore$Acquisition") (G_F_b2_com_example_hangslot_hangslot_LockStore_Acquisition_millisUntilFree : Fld Z h0 b2 "com/example/hangslot/hangslot/LockStore$Acquisition" "millisUntilFree" "J" (.long (0 : Int64))) (gn_b2 : n0 ≤ b2) :
    MetFree l (⟨"com/example/hangslot/hangslot/LockStore$Acquisition", "<init>", "(JJ)V"⟩ : MethodName) (head1 (Jvm.Cond.code (⟨"com/example/hangslot/hangslot/LockStore$Acquisition", "<init>", "(JJ)V"⟩ : MethodName) prog_8_method_1_code 5 none :: ws) ({ frames := 2, cells := 0, slots := 0, locals := 24 } : Room)) (fun a U => a = #[(.ref b2), (.long p1), (.long (-1 : Int64))] ∧ Z.Warmed39 U.vm ∧ U.heap = h0) (fun _ _ _ _ _ => True) (fun _ U o U' => ∃ v L, o = .returned v ∧ Q_rm2 Z p1 A K b2 h0 n0 v U'.heap L ∧ FrameEnd U o U' L ({ frames := 2, cells := 0, slots := 0, locals := 24 } : Room).cells ({ frames := 2, cells := 0, slots := 0, locals := 24 } : Room).slots) := by
  refine MetFree.of_bodySF (plainFor_of_name own_pn1) hisR ?_
  intro p e s m args below meth c s₁ Bd hml0 hP hK
  obtain ⟨rfl, hZ, hh⟩ := hP
  have hx := Bd.exec
  have hby := Bd.bytes
  have hml : c.maxLocals = 5 := hml0
  have hown : s.vm.findClass "com/example/hangslot/hangslot/LockStore$Acquisition" = some m.cls := findClass_of_methodNamed Bd.named
  have hnm := (name_of_methodNamed Bd.named Bd.method).1
  have X0 : Stand p l e ({ frames := 2, cells := 0, slots := 0, locals := 24 } : Room) s m #[(.ref b2), (.long p1), (.long (-1 : Int64))] below meth c s₁ [] 0 0 := Stand.of_body Bd
  have e0 : s₁.heap = h0 := by rw [← hh, Bd.state]; rfl
  have N0 := Fr.nil n0
  have pre0 : ∀ t, Steps p.tables e below (s₁.setTop (mkF m 0 #[.val (.ref b2), .val (.long p1), .second, .val (.long (-1 : Int64)), .second] [])) t → Steps p.tables e below (s₁.setTop (entryFrame m #[(.ref b2), (.long p1), (.long (-1 : Int64))] 5)) t := fun t k => castTop (own_ef_rm2 m p1 A K b2) k
  have KK0 : Keep h0 h0 [b2] := Keep.refl _ _
  obtain ⟨_, _, ⟨T4, L4, k4, n4⟩, -, X4, ⟨Lc4, hQ4, l4, y4, z4⟩, st4⟩ := X0.specialBack hx (y := (⟨"java/lang/Record", "<init>", "()V"⟩ : MethodName)) rfl hown (mvT hZ (hw _ (List.mem_of_getElem? (i := 10) rfl))) (mvT hZ (hw _ (List.mem_of_getElem? (i := 11) rfl))) (mvT hZ (hw _ (List.mem_of_getElem? (i := 14) rfl))) (by decide) (backOf (W := 0) (rm3 l Z a0 hw [] h0 n0 p1 A K b2 EN OL0) hZ (hw _ (List.mem_of_getElem? (i := 14) rfl)) (hw _ (List.mem_of_getElem? (i := 13) rfl)) (by decide) (by decide)) (g := (mkF m 1 #[.val (.ref b2), .val (.long p1), .second, .val (.long (-1 : Int64)), .second] [(.ref b2)])) rfl (by rw [hml]; rfl) (Steps.refl _) (a := b2) (argsL := []) (rest := []) (lenOf own_pd0 rfl) rfl (by show 2 * 0 + _ ≤ _; exact Nat.le_of_eq rfl) (hb hby own_d_prog_8_method_1_code_1) (fun _ _ => ⟨rfl, e0, (by decide : 0 + 0 ≤ _), (by decide : 0 + 0 ≤ _)⟩)
  dsimp only [Pt.U, Pt.locs, Pt.cells, Pt.slots] at X4 l4 y4 z4 st4 hQ4
  subst l4 y4 z4
  obtain ⟨rfl, N4q, e4⟩ := hQ4
  have N4 := Fr.app N0 N4q
  obtain ⟨T5, h5, X5, e5, W5, st5⟩ := putF X4 hx hZ hown (host := "") (Or.inl (hw _ (List.mem_of_getElem? (i := 18) rfl))) Via.refl e4 G_F_b2_com_example_hangslot_hangslot_LockStore_Acquisition_fencingToken G_E_b2 (Or.inr ⟨(hw _ (List.mem_of_getElem? (i := 19) rfl)), rfl, hnm⟩) (hw _ (List.mem_of_getElem? (i := 5) rfl)) (ty := .long) (by decide) rfl rfl (g := (mkF m 6 #[.val (.ref b2), .val (.long p1), .second, .val (.long (-1 : Int64)), .second] [(.long p1), (.ref b2)])) rfl rfl (hb hby own_d_prog_8_method_1_code_6)
  have NF5 := Fr.snoc X5 N4 gn_b2
  have OL5 : Old Z n0 h5 := OL0.wr W5 gn_b2
  have KK5 : Keep h0 h5 [b2] := KK0.wr W5 (Or.inl (List.mem_of_getElem? (i := 0) rfl))
  have Fw5 : Fld Z h5 b2 "com/example/hangslot/hangslot/LockStore$Acquisition" "fencingToken" "J" (.long p1) := G_F_b2_com_example_hangslot_hangslot_LockStore_Acquisition_fencingToken.same W5
  have fx6 : Fld Z h5 b2 "com/example/hangslot/hangslot/LockStore$Acquisition" "millisUntilFree" "J" (.long (0 : Int64)) := (G_F_b2_com_example_hangslot_hangslot_LockStore_Acquisition_millisUntilFree.other W5 (Or.inr (slot_ne (Or.inr (hw _ (List.mem_of_getElem? (i := 21) rfl))) (Or.inr (hw _ (List.mem_of_getElem? (i := 19) rfl))) (by decide) (t := .long) (t' := .long) (by decide) (by decide))))
  have fx7 : Exa Z h5 b2 "com/example/hangslot/hangslot/LockStore$Acquisition" := (G_E_b2.wr W5)
  obtain ⟨T8, h8, X8, e8, W8, st8⟩ := putF X5 hx hZ hown (host := "") (Or.inl (hw _ (List.mem_of_getElem? (i := 20) rfl))) Via.refl e5 fx6 fx7 (Or.inr ⟨(hw _ (List.mem_of_getElem? (i := 21) rfl)), rfl, hnm⟩) (hw _ (List.mem_of_getElem? (i := 5) rfl)) (ty := .long) (by decide) rfl rfl (g := (mkF m 11 #[.val (.ref b2), .val (.long p1), .second, .val (.long (-1 : Int64)), .second] [(.long (-1 : Int64)), (.ref b2)])) rfl rfl (hb hby own_d_prog_8_method_1_code_11)
  have NF8 := Fr.snoc X8 NF5 gn_b2
  have OL8 : Old Z n0 h8 := OL5.wr W8 gn_b2
  have KK8 : Keep h0 h8 [b2] := KK5.wr W8 (Or.inl (List.mem_of_getElem? (i := 0) rfl))
  have Fw8 : Fld Z h8 b2 "com/example/hangslot/hangslot/LockStore$Acquisition" "millisUntilFree" "J" (.long (-1 : Int64)) := fx6.same W8
  have fx9 : Exa Z h8 b2 "com/example/hangslot/hangslot/LockStore$Acquisition" := (fx7.wr W8)
  have fx10 : Fld Z h8 b2 "com/example/hangslot/hangslot/LockStore$Acquisition" "fencingToken" "J" (.long p1) := (Fw5.other W8 (Or.inr (slot_ne (Or.inr (hw _ (List.mem_of_getElem? (i := 19) rfl))) (Or.inr (hw _ (List.mem_of_getElem? (i := 21) rfl))) (by decide) (t := .long) (t' := .long) (by decide) (by decide))))
  obtain ⟨fs, hr, hrun, hended, hW, hsame⟩ := X8.leave (v := none) (fun _ => rfl)
  refine ⟨_, _, pre0 _ ?_, hrun, hended, _, _, rfl, ?_, ⟨_, rfl⟩, hW, hsame.mono (by decide) (by decide)⟩
  · show Steps p.tables e below (s₁.setTop (mkF m 0 #[.val (.ref b2), .val (.long p1), .second, .val (.long (-1 : Int64)), .second] [])) _
    refine XS.aloadN X0.here hx rfl (hb hby own_d_prog_8_method_1_code_0) rfl rfl ?_
    show Steps p.tables e below (s₁.setTop (mkF m 1 #[.val (.ref b2), .val (.long p1), .second, .val (.long (-1 : Int64)), .second] [(.ref b2)])) _
    refine st4.trans ?_
    show Steps p.tables e below (T4.setTop (mkF m 4 #[.val (.ref b2), .val (.long p1), .second, .val (.long (-1 : Int64)), .second] [])) _
    refine XS.aloadN X4.here hx rfl (hb hby own_d_prog_8_method_1_code_4) rfl rfl ?_
    show Steps p.tables e below (T4.setTop (mkF m 5 #[.val (.ref b2), .val (.long p1), .second, .val (.long (-1 : Int64)), .second] [(.ref b2)])) _
    refine XS.lloadN X4.here hx rfl (hb hby own_d_prog_8_method_1_code_5) rfl ?_
    show Steps p.tables e below (T4.setTop (mkF m 6 #[.val (.ref b2), .val (.long p1), .second, .val (.long (-1 : Int64)), .second] [(.long p1), (.ref b2)])) _
    refine st5 _ ?_
    show Steps p.tables e below (T5.setTop (mkF m 9 #[.val (.ref b2), .val (.long p1), .second, .val (.long (-1 : Int64)), .second] [])) _
    refine XS.aloadN X5.here hx rfl (hb hby own_d_prog_8_method_1_code_9) rfl rfl ?_
    show Steps p.tables e below (T5.setTop (mkF m 10 #[.val (.ref b2), .val (.long p1), .second, .val (.long (-1 : Int64)), .second] [(.ref b2)])) _
    refine XS.lloadN X5.here hx rfl (hb hby own_d_prog_8_method_1_code_10) rfl ?_
    show Steps p.tables e below (T5.setTop (mkF m 11 #[.val (.ref b2), .val (.long p1), .second, .val (.long (-1 : Int64)), .second] [(.long (-1 : Int64)), (.ref b2)])) _
    refine st8 _ ?_
    show Steps p.tables e below (T8.setTop (mkF m 14 #[.val (.ref b2), .val (.long p1), .second, .val (.long (-1 : Int64)), .second] [])) _
    exact X8.returnOut hx Bd.returns (hb hby own_d_prog_8_method_1_code_14) hr
  · show Q_rm2 Z p1 A K b2 h0 n0 _ T8.heap _
    rw [e8]
    exact ⟨rfl, NF8, KK8, fx9, fx10, Fw8⟩
def Q_rm1 (Z : State) (p1 : Int64) (A : Nat → Addr) (K : Nat → ClassId) (h0 : Heap) (n0 : Nat) (v : Option Value) (h : Heap) (L : List Loc) : Prop := ∃ b2 : Addr, v = (some (.ref b2)) ∧ Fr n0 L ∧ Keep h0 h [] ∧ (n0 ≤ b2 ∧ h0.size ≤ b2) ∧ (Exa Z h b2 "com/example/hangslot/hangslot/LockStore$Acquisition") ∧ (Fld Z h b2 "com/example/hangslot/hangslot/LockStore$Acquisition" "fencingToken" "J" (.long p1)) ∧ (Fld Z h b2 "com/example/hangslot/hangslot/LockStore$Acquisition" "millisUntilFree" "J" (.long (-1 : Int64)))
theorem own_d_prog_8_method_2_code_0 : decode prog_8_method_2_code 0 = .ok (.new 8, 3) := by decide +kernel
theorem own_d_prog_8_method_2_code_3 : decode prog_8_method_2_code 3 = .ok (.dup, 1) := by decide +kernel
theorem own_d_prog_8_method_2_code_4 : decode prog_8_method_2_code 4 = .ok (.lload_n 0, 1) := by decide +kernel
theorem own_d_prog_8_method_2_code_5 : decode prog_8_method_2_code 5 = .ok (.ldc2_w 16, 3) := by decide +kernel
theorem own_d_prog_8_method_2_code_8 : decode prog_8_method_2_code 8 = .ok (.invokespecial 18, 3) := by decide +kernel
theorem own_d_prog_8_method_2_code_11 : decode prog_8_method_2_code 11 = .ok (.areturn, 1) := by decide +kernel
theorem own_ef_rm1 (m : MethodId) (p1 : Int64) (A : Nat → Addr) (K : Nat → ClassId)  : entryFrame m #[(.long p1)] 2 = mkF m 0 #[.val (.long p1), .second] [] := by first | (simp [entryFrame, mkF, argsToLocals, Value.category, maxLocals]; done) | rfl
set_option maxRecDepth 65536 in
set_option maxHeartbeats 40000000 in
theorem rm1 (l : Launch) (Z : State) (a0 : Array Value) (hw : ∀ d ∈ tables_1, d.before a0 Z = true) (ws : List Jvm.Cond) (h0 : Heap) (n0 : Nat) (p1 : Int64) (A : Nat → Addr) (K : Nat → ClassId)  (EN : own_St Z A K) (OL0 : Old Z n0 h0) :
    MetFree l (⟨"com/example/hangslot/hangslot/LockStore$Acquisition", "taken", "(J)Lcom/example/hangslot/hangslot/LockStore$Acquisition;"⟩ : MethodName) (head1 (Jvm.Cond.code (⟨"com/example/hangslot/hangslot/LockStore$Acquisition", "taken", "(J)Lcom/example/hangslot/hangslot/LockStore$Acquisition;"⟩ : MethodName) prog_8_method_2_code 2 (some (.object "com/example/hangslot/hangslot/LockStore$Acquisition")) :: ws) ({ frames := 3, cells := 1, slots := 2, locals := 41 } : Room)) (fun a U => a = #[(.long p1)] ∧ Z.Warmed39 U.vm ∧ U.heap = h0) (fun _ _ _ _ _ => True) (fun _ U o U' => ∃ v L, o = .returned v ∧ Q_rm1 Z p1 A K h0 n0 v U'.heap L ∧ FrameEnd U o U' L ({ frames := 3, cells := 1, slots := 2, locals := 41 } : Room).cells ({ frames := 3, cells := 1, slots := 2, locals := 41 } : Room).slots) := by
  refine MetFree.of_bodySF (plainFor_of_name own_pn1) hisR ?_
  intro p e s m args below meth c s₁ Bd hml0 hP hK
  obtain ⟨rfl, hZ, hh⟩ := hP
  have hx := Bd.exec
  have hby := Bd.bytes
  have hml : c.maxLocals = 2 := hml0
  have hown : s.vm.findClass "com/example/hangslot/hangslot/LockStore$Acquisition" = some m.cls := findClass_of_methodNamed Bd.named
  have hnm := (name_of_methodNamed Bd.named Bd.method).1
  have X0 : Stand p l e ({ frames := 3, cells := 1, slots := 2, locals := 41 } : Room) s m #[(.long p1)] below meth c s₁ [] 0 0 := Stand.of_body Bd
  have e0 : s₁.heap = h0 := by rw [← hh, Bd.state]; rfl
  have N0 := Fr.nil n0
  have pre0 : ∀ t, Steps p.tables e below (s₁.setTop (mkF m 0 #[.val (.long p1), .second] [])) t → Steps p.tables e below (s₁.setTop (entryFrame m #[(.long p1)] 2)) t := fun t k => castTop (own_ef_rm1 m p1 A K ) k
  have KK0 : Keep h0 h0 [] := Keep.refl _ _
  obtain ⟨T2, h2, X2, e2, E2, A2, D2, -, st2⟩ := newO X0 hx hZ hown (hw _ (List.mem_of_getElem? (i := 4) rfl)) (hw _ (List.mem_of_getElem? (i := 5) rfl)) (hw _ (List.mem_of_getElem? (i := 2) rfl)) e0 (g := (mkF m 0 #[.val (.long p1), .second] [])) rfl (hb hby own_d_prog_8_method_2_code_0) (by decide) (by decide)
  obtain ⟨b2, g2⟩ : ∃ z, z = h0.size := ⟨_, rfl⟩
  rw [← g2] at A2 D2 st2
  have gn_b2 : n0 ≤ b2 := Nat.le_trans (OL0.1 ▸ OL0.2.1) (Nat.le_of_eq g2.symm)
  have sz_b2 : h0.size ≤ b2 := Nat.le_trans KK0.1 (Nat.le_of_eq g2.symm)
  have OL2 : Old Z n0 h2 := OL0.ext E2
  have KK2 : Keep h0 h2 [] := KK0.ext E2
  have F2_fencingToken : Fld Z h2 b2 "com/example/hangslot/hangslot/LockStore$Acquisition" "fencingToken" "J" (.long (0 : Int64)) := D2 (Or.inr (hw _ (List.mem_of_getElem? (i := 19) rfl))) (ty := .long) (by decide)
  have F2_millisUntilFree : Fld Z h2 b2 "com/example/hangslot/hangslot/LockStore$Acquisition" "millisUntilFree" "J" (.long (0 : Int64)) := D2 (Or.inr (hw _ (List.mem_of_getElem? (i := 21) rfl))) (ty := .long) (by decide)
  obtain ⟨_, _, ⟨T11, L11, k11, n11⟩, -, X11, ⟨Lc11, hQ11, l11, y11, z11⟩, st11⟩ := X2.specialBack hx (y := (⟨"com/example/hangslot/hangslot/LockStore$Acquisition", "<init>", "(JJ)V"⟩ : MethodName)) rfl hown (mvT hZ (hw _ (List.mem_of_getElem? (i := 7) rfl))) (mvT hZ (hw _ (List.mem_of_getElem? (i := 8) rfl))) (mvT hZ (hw _ (List.mem_of_getElem? (i := 9) rfl))) (by decide) (backOf (W := 1) (rm2 l Z a0 hw [] h2 n0 p1 A K b2 EN OL2 F2_fencingToken A2 F2_millisUntilFree gn_b2) hZ (hw _ (List.mem_of_getElem? (i := 9) rfl)) (hw _ (List.mem_of_getElem? (i := 2) rfl)) (by decide) (by decide)) (g := (mkF m 8 #[.val (.long p1), .second] [(.long (-1 : Int64)), (.long p1), (.ref b2), (.ref b2)])) rfl (by rw [hml]; rfl) (Steps.refl _) (a := b2) (argsL := [(.long p1), (.long (-1 : Int64))]) (rest := [(.ref b2)]) (lenOf own_pd1 rfl) rfl (by show 2 * 0 + _ ≤ _; exact Nat.le_of_eq rfl) (hb hby own_d_prog_8_method_2_code_8) (fun _ _ => ⟨rfl, e2, (by decide : 1 + 0 ≤ _), (by decide : 2 + 0 ≤ _)⟩)
  dsimp only [Pt.U, Pt.locs, Pt.cells, Pt.slots] at X11 l11 y11 z11 st11 hQ11
  subst l11 y11 z11
  obtain ⟨rfl, N11q, K11c, f11_0, f11_1, f11_2⟩ := hQ11
  have N11 := Fr.app N0 N11q
  have OL11 : Old Z n0 T11.heap := OL2.keep K11c (allS gn_b2 all0)
  have KK11 : Keep h0 T11.heap [] := KK2.trans K11c (allS (Or.inr sz_b2) all0)
  obtain ⟨fs, hr, hrun, hended, hW, hsame⟩ := X11.leave (v := some (.ref b2)) (fun h => by rw [Bd.returns] at h; cases h)
  refine ⟨_, _, pre0 _ ?_, hrun, hended, _, _, rfl, ?_, ⟨_, rfl⟩, hW, hsame.mono (by decide) (by decide)⟩
  · show Steps p.tables e below (s₁.setTop (mkF m 0 #[.val (.long p1), .second] [])) _
    refine st2 _ ?_
    show Steps p.tables e below (T2.setTop (mkF m 3 #[.val (.long p1), .second] [(.ref b2)])) _
    refine XS.dup X2.here hx rfl (hb hby own_d_prog_8_method_2_code_3) rfl rfl ?_
    show Steps p.tables e below (T2.setTop (mkF m 4 #[.val (.long p1), .second] [(.ref b2), (.ref b2)])) _
    refine XS.lloadN X2.here hx rfl (hb hby own_d_prog_8_method_2_code_4) rfl ?_
    show Steps p.tables e below (T2.setTop (mkF m 5 #[.val (.long p1), .second] [(.long p1), (.ref b2), (.ref b2)])) _
    refine X2.ldc2Long hx hown (mvT hZ (hw _ (List.mem_of_getElem? (i := 6) rfl))) (g := (mkF m 5 #[.val (.long p1), .second] [(.long p1), (.ref b2), (.ref b2)])) rfl (hb hby own_d_prog_8_method_2_code_5) _ ?_
    show Steps p.tables e below (T2.setTop (mkF m 8 #[.val (.long p1), .second] [(.long (-1 : Int64)), (.long p1), (.ref b2), (.ref b2)])) _
    refine st11.trans ?_
    show Steps p.tables e below (T11.setTop (mkF m 11 #[.val (.long p1), .second] [(.ref b2)])) _
    exact retOut X11 hx Bd.returns rfl (Or.inr (Or.inr (Or.inr (Or.inr ⟨rfl, rfl, rfl⟩)))) (hb hby own_d_prog_8_method_2_code_11) hr
  · show Q_rm1 Z p1 A K h0 n0 _ T11.heap _
    exact ⟨b2, rfl, N11, KK11, ⟨gn_b2, sz_b2⟩, f11_0, f11_1, f11_2⟩
theorem own_d_prog_8_method_8_code_0 : decode prog_8_method_8_code 0 = .ok (.aload_n 0, 1) := by decide +kernel
theorem own_d_prog_8_method_8_code_1 : decode prog_8_method_8_code 1 = .ok (.getfield 7, 3) := by decide +kernel
theorem own_d_prog_8_method_8_code_4 : decode prog_8_method_8_code 4 = .ok (.lreturn, 1) := by decide +kernel
theorem own_ef_rm4 (m : MethodId) (p1 : Int64) (A : Nat → Addr) (K : Nat → ClassId)  (b12_b2 : Addr) : entryFrame m #[(.ref b12_b2)] 1 = mkF m 0 #[.val (.ref b12_b2)] [] := by first | (simp [entryFrame, mkF, argsToLocals, Value.category, maxLocals]; done) | rfl
set_option maxRecDepth 65536 in
set_option maxHeartbeats 40000000 in
theorem rm4 (l : Launch) (Z : State) (a0 : Array Value) (hw : ∀ d ∈ tables_1, d.before a0 Z = true) (ws : List Jvm.Cond) (h0 : Heap) (n0 : Nat) (p1 : Int64) (A : Nat → Addr) (K : Nat → ClassId)  (b12_b2 : Addr) (EN : own_St Z A K) (OL0 : Old Z n0 h0) (G_F_b12_b2_com_example_hangslot_hangslot_LockStore_Acquisition_fencingToken : Fld Z h0 b12_b2 "com/example/hangslot/hangslot/LockStore$Acquisition" "fencingToken" "J" (.long p1)) :
    MetFree l (⟨"com/example/hangslot/hangslot/LockStore$Acquisition", "fencingToken", "()J"⟩ : MethodName) (head1 (Jvm.Cond.code (⟨"com/example/hangslot/hangslot/LockStore$Acquisition", "fencingToken", "()J"⟩ : MethodName) prog_8_method_8_code 1 (some .long) :: ws) ({ frames := 0, cells := 0, slots := 0, locals := 0 } : Room)) (fun a U => a = #[(.ref b12_b2)] ∧ Z.Warmed39 U.vm ∧ U.heap = h0) (fun _ _ _ _ _ => True) (fun _ U o U' => ∃ v L, o = .returned v ∧ (PQ (some (.long p1)) h0 n0) v U'.heap L ∧ FrameEnd U o U' L ({ frames := 0, cells := 0, slots := 0, locals := 0 } : Room).cells ({ frames := 0, cells := 0, slots := 0, locals := 0 } : Room).slots) := by
  refine MetFree.of_bodySF (plainFor_of_name own_pn1) hisR ?_
  intro p e s m args below meth c s₁ Bd hml0 hP hK
  obtain ⟨rfl, hZ, hh⟩ := hP
  have hx := Bd.exec
  have hby := Bd.bytes
  have hml : c.maxLocals = 1 := hml0
  have hown : s.vm.findClass "com/example/hangslot/hangslot/LockStore$Acquisition" = some m.cls := findClass_of_methodNamed Bd.named
  have hnm := (name_of_methodNamed Bd.named Bd.method).1
  have X0 : Stand p l e ({ frames := 0, cells := 0, slots := 0, locals := 0 } : Room) s m #[(.ref b12_b2)] below meth c s₁ [] 0 0 := Stand.of_body Bd
  have e0 : s₁.heap = h0 := by rw [← hh, Bd.state]; rfl
  have N0 := Fr.nil n0
  have pre0 : ∀ t, Steps p.tables e below (s₁.setTop (mkF m 0 #[.val (.ref b12_b2)] [])) t → Steps p.tables e below (s₁.setTop (entryFrame m #[(.ref b12_b2)] 1)) t := fun t k => castTop (own_ef_rm4 m p1 A K b12_b2) k
  have KK0 : Keep h0 h0 [] := Keep.refl _ _
  obtain ⟨T13, X13, e13, st13⟩ := getF X0 hx hZ hown (host := "") (Or.inl (hw _ (List.mem_of_getElem? (i := 18) rfl))) Via.refl e0 G_F_b12_b2_com_example_hangslot_hangslot_LockStore_Acquisition_fencingToken (g := (mkF m 1 #[.val (.ref b12_b2)] [(.ref b12_b2)])) rfl rfl (hb hby own_d_prog_8_method_8_code_1)
  obtain ⟨fs, hr, hrun, hended, hW, hsame⟩ := X13.leave (v := some (.long p1)) (fun h => by rw [Bd.returns] at h; cases h)
  refine ⟨_, _, pre0 _ ?_, hrun, hended, _, _, rfl, ?_, ⟨_, rfl⟩, hW, hsame.mono (by decide) (by decide)⟩
  · show Steps p.tables e below (s₁.setTop (mkF m 0 #[.val (.ref b12_b2)] [])) _
    refine XS.aloadN X0.here hx rfl (hb hby own_d_prog_8_method_8_code_0) rfl rfl ?_
    show Steps p.tables e below (s₁.setTop (mkF m 1 #[.val (.ref b12_b2)] [(.ref b12_b2)])) _
    refine st13 _ ?_
    show Steps p.tables e below (T13.setTop (mkF m 4 #[.val (.ref b12_b2)] [(.long p1)])) _
    exact retOut X13 hx Bd.returns rfl (Or.inr (Or.inl ⟨rfl, rfl, _, rfl⟩)) (hb hby own_d_prog_8_method_8_code_4) hr
  · show PQ (some (.long p1)) h0 n0 _ T13.heap _
    rw [e13]
    exact ⟨rfl, N0, rfl⟩
theorem own_d_prog_8_method_9_code_0 : decode prog_8_method_9_code 0 = .ok (.aload_n 0, 1) := by decide +kernel
theorem own_d_prog_8_method_9_code_1 : decode prog_8_method_9_code 1 = .ok (.getfield 13, 3) := by decide +kernel
theorem own_d_prog_8_method_9_code_4 : decode prog_8_method_9_code 4 = .ok (.lreturn, 1) := by decide +kernel
theorem own_ef_rm5 (m : MethodId) (p1 : Int64) (A : Nat → Addr) (K : Nat → ClassId)  (b12_b2 : Addr) : entryFrame m #[(.ref b12_b2)] 1 = mkF m 0 #[.val (.ref b12_b2)] [] := by first | (simp [entryFrame, mkF, argsToLocals, Value.category, maxLocals]; done) | rfl
set_option maxRecDepth 65536 in
set_option maxHeartbeats 40000000 in
theorem rm5 (l : Launch) (Z : State) (a0 : Array Value) (hw : ∀ d ∈ tables_1, d.before a0 Z = true) (ws : List Jvm.Cond) (h0 : Heap) (n0 : Nat) (p1 : Int64) (A : Nat → Addr) (K : Nat → ClassId)  (b12_b2 : Addr) (EN : own_St Z A K) (OL0 : Old Z n0 h0) (G_F_b12_b2_com_example_hangslot_hangslot_LockStore_Acquisition_millisUntilFree : Fld Z h0 b12_b2 "com/example/hangslot/hangslot/LockStore$Acquisition" "millisUntilFree" "J" (.long (-1 : Int64))) :
    MetFree l (⟨"com/example/hangslot/hangslot/LockStore$Acquisition", "millisUntilFree", "()J"⟩ : MethodName) (head1 (Jvm.Cond.code (⟨"com/example/hangslot/hangslot/LockStore$Acquisition", "millisUntilFree", "()J"⟩ : MethodName) prog_8_method_9_code 1 (some .long) :: ws) ({ frames := 0, cells := 0, slots := 0, locals := 0 } : Room)) (fun a U => a = #[(.ref b12_b2)] ∧ Z.Warmed39 U.vm ∧ U.heap = h0) (fun _ _ _ _ _ => True) (fun _ U o U' => ∃ v L, o = .returned v ∧ (PQ (some (.long (-1 : Int64))) h0 n0) v U'.heap L ∧ FrameEnd U o U' L ({ frames := 0, cells := 0, slots := 0, locals := 0 } : Room).cells ({ frames := 0, cells := 0, slots := 0, locals := 0 } : Room).slots) := by
  refine MetFree.of_bodySF (plainFor_of_name own_pn1) hisR ?_
  intro p e s m args below meth c s₁ Bd hml0 hP hK
  obtain ⟨rfl, hZ, hh⟩ := hP
  have hx := Bd.exec
  have hby := Bd.bytes
  have hml : c.maxLocals = 1 := hml0
  have hown : s.vm.findClass "com/example/hangslot/hangslot/LockStore$Acquisition" = some m.cls := findClass_of_methodNamed Bd.named
  have hnm := (name_of_methodNamed Bd.named Bd.method).1
  have X0 : Stand p l e ({ frames := 0, cells := 0, slots := 0, locals := 0 } : Room) s m #[(.ref b12_b2)] below meth c s₁ [] 0 0 := Stand.of_body Bd
  have e0 : s₁.heap = h0 := by rw [← hh, Bd.state]; rfl
  have N0 := Fr.nil n0
  have pre0 : ∀ t, Steps p.tables e below (s₁.setTop (mkF m 0 #[.val (.ref b12_b2)] [])) t → Steps p.tables e below (s₁.setTop (entryFrame m #[(.ref b12_b2)] 1)) t := fun t k => castTop (own_ef_rm5 m p1 A K b12_b2) k
  have KK0 : Keep h0 h0 [] := Keep.refl _ _
  obtain ⟨T15, X15, e15, st15⟩ := getF X0 hx hZ hown (host := "") (Or.inl (hw _ (List.mem_of_getElem? (i := 20) rfl))) Via.refl e0 G_F_b12_b2_com_example_hangslot_hangslot_LockStore_Acquisition_millisUntilFree (g := (mkF m 1 #[.val (.ref b12_b2)] [(.ref b12_b2)])) rfl rfl (hb hby own_d_prog_8_method_9_code_1)
  obtain ⟨fs, hr, hrun, hended, hW, hsame⟩ := X15.leave (v := some (.long (-1 : Int64))) (fun h => by rw [Bd.returns] at h; cases h)
  refine ⟨_, _, pre0 _ ?_, hrun, hended, _, _, rfl, ?_, ⟨_, rfl⟩, hW, hsame.mono (by decide) (by decide)⟩
  · show Steps p.tables e below (s₁.setTop (mkF m 0 #[.val (.ref b12_b2)] [])) _
    refine XS.aloadN X0.here hx rfl (hb hby own_d_prog_8_method_9_code_0) rfl rfl ?_
    show Steps p.tables e below (s₁.setTop (mkF m 1 #[.val (.ref b12_b2)] [(.ref b12_b2)])) _
    refine st15 _ ?_
    show Steps p.tables e below (T15.setTop (mkF m 4 #[.val (.ref b12_b2)] [(.long (-1 : Int64))])) _
    exact retOut X15 hx Bd.returns rfl (Or.inr (Or.inl ⟨rfl, rfl, _, rfl⟩)) (hb hby own_d_prog_8_method_9_code_4) hr
  · show PQ (some (.long (-1 : Int64))) h0 n0 _ T15.heap _
    rw [e15]
    exact ⟨rfl, N0, rfl⟩
theorem own_d_prog_8_method_4_code_0 : decode prog_8_method_4_code 0 = .ok (.aload_n 0, 1) := by decide +kernel
theorem own_d_prog_8_method_4_code_1 : decode prog_8_method_4_code 1 = .ok (.getfield 7, 3) := by decide +kernel
theorem own_d_prog_8_method_4_code_4 : decode prog_8_method_4_code 4 = .ok (.lconst 0, 1) := by decide +kernel
theorem own_d_prog_8_method_4_code_5 : decode prog_8_method_4_code 5 = .ok (.lcmp, 1) := by decide +kernel
theorem own_d_prog_8_method_4_code_6 : decode prog_8_method_4_code 6 = .ok (.ifCond .le 7, 3) := by decide +kernel
theorem own_d_prog_8_method_4_code_9 : decode prog_8_method_4_code 9 = .ok (.iconst 1, 1) := by decide +kernel
theorem own_d_prog_8_method_4_code_10 : decode prog_8_method_4_code 10 = .ok (.goto 4, 3) := by decide +kernel
theorem own_d_prog_8_method_4_code_14 : decode prog_8_method_4_code 14 = .ok (.ireturn, 1) := by decide +kernel
theorem own_ef_rm6 (m : MethodId) (p1 : Int64) (A : Nat → Addr) (K : Nat → ClassId)  (b12_b2 : Addr) : entryFrame m #[(.ref b12_b2)] 1 = mkF m 0 #[.val (.ref b12_b2)] [] := by first | (simp [entryFrame, mkF, argsToLocals, Value.category, maxLocals]; done) | rfl
set_option maxRecDepth 65536 in
set_option maxHeartbeats 40000000 in
theorem rm6 (l : Launch) (Z : State) (a0 : Array Value) (hw : ∀ d ∈ tables_1, d.before a0 Z = true) (ws : List Jvm.Cond) (h0 : Heap) (n0 : Nat) (p1 : Int64) (A : Nat → Addr) (K : Nat → ClassId)  (b12_b2 : Addr) (EN : own_St Z A K) (OL0 : Old Z n0 h0) (G_F_b12_b2_com_example_hangslot_hangslot_LockStore_Acquisition_fencingToken : Fld Z h0 b12_b2 "com/example/hangslot/hangslot/LockStore$Acquisition" "fencingToken" "J" (.long p1)) (hp_1 : (0 : Int32) < (lcmpW p1 (0 : Int64))) :
    MetFree l (⟨"com/example/hangslot/hangslot/LockStore$Acquisition", "taken", "()Z"⟩ : MethodName) (head1 (Jvm.Cond.code (⟨"com/example/hangslot/hangslot/LockStore$Acquisition", "taken", "()Z"⟩ : MethodName) prog_8_method_4_code 1 (some .boolean) :: ws) ({ frames := 0, cells := 0, slots := 0, locals := 0 } : Room)) (fun a U => a = #[(.ref b12_b2)] ∧ Z.Warmed39 U.vm ∧ U.heap = h0) (fun _ _ _ _ _ => True) (fun _ U o U' => ∃ v L, o = .returned v ∧ (PQ (some (.int (1 : Int32))) h0 n0) v U'.heap L ∧ FrameEnd U o U' L ({ frames := 0, cells := 0, slots := 0, locals := 0 } : Room).cells ({ frames := 0, cells := 0, slots := 0, locals := 0 } : Room).slots) := by
  refine MetFree.of_bodySF (plainFor_of_name own_pn1) hisR ?_
  intro p e s m args below meth c s₁ Bd hml0 hP hK
  obtain ⟨rfl, hZ, hh⟩ := hP
  have hx := Bd.exec
  have hby := Bd.bytes
  have hml : c.maxLocals = 1 := hml0
  have hown : s.vm.findClass "com/example/hangslot/hangslot/LockStore$Acquisition" = some m.cls := findClass_of_methodNamed Bd.named
  have hnm := (name_of_methodNamed Bd.named Bd.method).1
  have X0 : Stand p l e ({ frames := 0, cells := 0, slots := 0, locals := 0 } : Room) s m #[(.ref b12_b2)] below meth c s₁ [] 0 0 := Stand.of_body Bd
  have e0 : s₁.heap = h0 := by rw [← hh, Bd.state]; rfl
  have N0 := Fr.nil n0
  have pre0 : ∀ t, Steps p.tables e below (s₁.setTop (mkF m 0 #[.val (.ref b12_b2)] [])) t → Steps p.tables e below (s₁.setTop (entryFrame m #[(.ref b12_b2)] 1)) t := fun t k => castTop (own_ef_rm6 m p1 A K b12_b2) k
  have KK0 : Keep h0 h0 [] := Keep.refl _ _
  obtain ⟨T17, X17, e17, st17⟩ := getF X0 hx hZ hown (host := "") (Or.inl (hw _ (List.mem_of_getElem? (i := 18) rfl))) Via.refl e0 G_F_b12_b2_com_example_hangslot_hangslot_LockStore_Acquisition_fencingToken (g := (mkF m 1 #[.val (.ref b12_b2)] [(.ref b12_b2)])) rfl rfl (hb hby own_d_prog_8_method_4_code_1)
  obtain ⟨fs, hr, hrun, hended, hW, hsame⟩ := X17.leave (v := some (.int (1 : Int32))) (fun h => by rw [Bd.returns] at h; cases h)
  refine ⟨_, _, pre0 _ ?_, hrun, hended, _, _, rfl, ?_, ⟨_, rfl⟩, hW, hsame.mono (by decide) (by decide)⟩
  · show Steps p.tables e below (s₁.setTop (mkF m 0 #[.val (.ref b12_b2)] [])) _
    refine XS.aloadN X0.here hx rfl (hb hby own_d_prog_8_method_4_code_0) rfl rfl ?_
    show Steps p.tables e below (s₁.setTop (mkF m 1 #[.val (.ref b12_b2)] [(.ref b12_b2)])) _
    refine st17 _ ?_
    show Steps p.tables e below (T17.setTop (mkF m 4 #[.val (.ref b12_b2)] [(.long p1)])) _
    refine XS.lconst X17.here hx rfl (hb hby own_d_prog_8_method_4_code_4) ?_
    show Steps p.tables e below (T17.setTop (mkF m 5 #[.val (.ref b12_b2)] [(.long (0 : Int64)), (.long p1)])) _
    refine XS.lcmp X17.here hx rfl (hb hby own_d_prog_8_method_4_code_5) rfl ?_
    show Steps p.tables e below (T17.setTop (mkF m 6 #[.val (.ref b12_b2)] [(.int (lcmpW p1 (0 : Int64)))])) _
    refine XS.ifNo X17.here hx rfl (hb hby own_d_prog_8_method_4_code_6) rfl ((if0 _ _).trans (tlt hp_1).2.2.2) ?_
    show Steps p.tables e below (T17.setTop (mkF m 9 #[.val (.ref b12_b2)] [])) _
    refine XS.iconst X17.here hx rfl (hb hby own_d_prog_8_method_4_code_9) ?_
    show Steps p.tables e below (T17.setTop (mkF m 10 #[.val (.ref b12_b2)] [(.int (1 : Int32))])) _
    refine XS.goto X17.here hx rfl (pc0 := 10) (pc' := 14) rfl (hb hby own_d_prog_8_method_4_code_10) (by decide) (by decide) ?_
    show Steps p.tables e below (T17.setTop (mkF m 14 #[.val (.ref b12_b2)] [(.int (1 : Int32))])) _
    exact retN X17 hx (t := .boolean) Bd.returns (by simp) (hb hby own_d_prog_8_method_4_code_14) hr
  · show PQ (some (.int (1 : Int32))) h0 n0 _ T17.heap _
    rw [e17]
    exact ⟨rfl, N0, rfl⟩
theorem own_d_prog_8_method_4_code_13 : decode prog_8_method_4_code 13 = .ok (.iconst 0, 1) := by decide +kernel
theorem own_ef_rm7 (m : MethodId) (p1 : Int64) (A : Nat → Addr) (K : Nat → ClassId)  (b19_b2 : Addr) : entryFrame m #[(.ref b19_b2)] 1 = mkF m 0 #[.val (.ref b19_b2)] [] := by first | (simp [entryFrame, mkF, argsToLocals, Value.category, maxLocals]; done) | rfl
set_option maxRecDepth 65536 in
set_option maxHeartbeats 40000000 in
theorem rm7 (l : Launch) (Z : State) (a0 : Array Value) (hw : ∀ d ∈ tables_1, d.before a0 Z = true) (ws : List Jvm.Cond) (h0 : Heap) (n0 : Nat) (p1 : Int64) (A : Nat → Addr) (K : Nat → ClassId)  (b19_b2 : Addr) (EN : own_St Z A K) (OL0 : Old Z n0 h0) (G_F_b19_b2_com_example_hangslot_hangslot_LockStore_Acquisition_fencingToken : Fld Z h0 b19_b2 "com/example/hangslot/hangslot/LockStore$Acquisition" "fencingToken" "J" (.long p1)) (hp_1 : ¬ ((0 : Int32) < (lcmpW p1 (0 : Int64)))) :
    MetFree l (⟨"com/example/hangslot/hangslot/LockStore$Acquisition", "taken", "()Z"⟩ : MethodName) (head1 (Jvm.Cond.code (⟨"com/example/hangslot/hangslot/LockStore$Acquisition", "taken", "()Z"⟩ : MethodName) prog_8_method_4_code 1 (some .boolean) :: ws) ({ frames := 0, cells := 0, slots := 0, locals := 0 } : Room)) (fun a U => a = #[(.ref b19_b2)] ∧ Z.Warmed39 U.vm ∧ U.heap = h0) (fun _ _ _ _ _ => True) (fun _ U o U' => ∃ v L, o = .returned v ∧ (PQ (some (.int (0 : Int32))) h0 n0) v U'.heap L ∧ FrameEnd U o U' L ({ frames := 0, cells := 0, slots := 0, locals := 0 } : Room).cells ({ frames := 0, cells := 0, slots := 0, locals := 0 } : Room).slots) := by
  refine MetFree.of_bodySF (plainFor_of_name own_pn1) hisR ?_
  intro p e s m args below meth c s₁ Bd hml0 hP hK
  obtain ⟨rfl, hZ, hh⟩ := hP
  have hx := Bd.exec
  have hby := Bd.bytes
  have hml : c.maxLocals = 1 := hml0
  have hown : s.vm.findClass "com/example/hangslot/hangslot/LockStore$Acquisition" = some m.cls := findClass_of_methodNamed Bd.named
  have hnm := (name_of_methodNamed Bd.named Bd.method).1
  have X0 : Stand p l e ({ frames := 0, cells := 0, slots := 0, locals := 0 } : Room) s m #[(.ref b19_b2)] below meth c s₁ [] 0 0 := Stand.of_body Bd
  have e0 : s₁.heap = h0 := by rw [← hh, Bd.state]; rfl
  have N0 := Fr.nil n0
  have pre0 : ∀ t, Steps p.tables e below (s₁.setTop (mkF m 0 #[.val (.ref b19_b2)] [])) t → Steps p.tables e below (s₁.setTop (entryFrame m #[(.ref b19_b2)] 1)) t := fun t k => castTop (own_ef_rm7 m p1 A K b19_b2) k
  have KK0 : Keep h0 h0 [] := Keep.refl _ _
  obtain ⟨T22, X22, e22, st22⟩ := getF X0 hx hZ hown (host := "") (Or.inl (hw _ (List.mem_of_getElem? (i := 18) rfl))) Via.refl e0 G_F_b19_b2_com_example_hangslot_hangslot_LockStore_Acquisition_fencingToken (g := (mkF m 1 #[.val (.ref b19_b2)] [(.ref b19_b2)])) rfl rfl (hb hby own_d_prog_8_method_4_code_1)
  obtain ⟨fs, hr, hrun, hended, hW, hsame⟩ := X22.leave (v := some (.int (0 : Int32))) (fun h => by rw [Bd.returns] at h; cases h)
  refine ⟨_, _, pre0 _ ?_, hrun, hended, _, _, rfl, ?_, ⟨_, rfl⟩, hW, hsame.mono (by decide) (by decide)⟩
  · show Steps p.tables e below (s₁.setTop (mkF m 0 #[.val (.ref b19_b2)] [])) _
    refine XS.aloadN X0.here hx rfl (hb hby own_d_prog_8_method_4_code_0) rfl rfl ?_
    show Steps p.tables e below (s₁.setTop (mkF m 1 #[.val (.ref b19_b2)] [(.ref b19_b2)])) _
    refine st22 _ ?_
    show Steps p.tables e below (T22.setTop (mkF m 4 #[.val (.ref b19_b2)] [(.long p1)])) _
    refine XS.lconst X22.here hx rfl (hb hby own_d_prog_8_method_4_code_4) ?_
    show Steps p.tables e below (T22.setTop (mkF m 5 #[.val (.ref b19_b2)] [(.long (0 : Int64)), (.long p1)])) _
    refine XS.lcmp X22.here hx rfl (hb hby own_d_prog_8_method_4_code_5) rfl ?_
    show Steps p.tables e below (T22.setTop (mkF m 6 #[.val (.ref b19_b2)] [(.int (lcmpW p1 (0 : Int64)))])) _
    refine XS.ifYes X22.here hx rfl (pc0 := 6) (pc' := 13) rfl (hb hby own_d_prog_8_method_4_code_6) rfl ((if0 _ _).trans (flt hp_1).2.2.2) (by decide) (by decide) ?_
    show Steps p.tables e below (T22.setTop (mkF m 13 #[.val (.ref b19_b2)] [])) _
    refine XS.iconst X22.here hx rfl (hb hby own_d_prog_8_method_4_code_13) ?_
    show Steps p.tables e below (T22.setTop (mkF m 14 #[.val (.ref b19_b2)] [(.int (0 : Int32))])) _
    exact retN X22 hx (t := .boolean) Bd.returns (by simp) (hb hby own_d_prog_8_method_4_code_14) hr
  · show PQ (some (.int (0 : Int32))) h0 n0 _ T22.heap _
    rw [e22]
    exact ⟨rfl, N0, rfl⟩
theorem own_pn2 : plainName "com/example/hangslot/hangslot/AcquisitionTaken326PinLaw" = true := by first | (simp [plainName, overriddenIn]; done) | decide +kernel
theorem own_ef_rm0 (m : MethodId) (p1 : Int64) (A : Nat → Addr) (K : Nat → ClassId) : entryFrame m #[(.long p1)] maxLocals = mkF m 0 #[.val (.long p1), .second, .unset, .unset, .unset, .unset] [] := by first | (simp [entryFrame, mkF, argsToLocals, Value.category, maxLocals]; done) | rfl
set_option maxRecDepth 65536 in
set_option maxHeartbeats 40000000 in
theorem rm0 (l : Launch) (Z : State) (a0 : Array Value) (hw : ∀ d ∈ tables_1, d.before a0 Z = true) (ws : List Jvm.Cond) (h0 : Heap) (n0 : Nat) (p1 : Int64) (A : Nat → Addr) (K : Nat → ClassId) (EN : own_St Z A K) (OL0 : Old Z n0 h0) :
    MetFree l x (head1 (Jvm.Cond.code x code maxLocals ret :: ws) room_1) (fun a U => a = #[(.long p1)] ∧ Z.Warmed39 U.vm ∧ U.heap = h0) (fun _ _ _ _ _ => True) (fun _ U o U' => ∃ v L, o = .returned v ∧ (LQ n0) v U'.heap L ∧ FrameEnd U o U' L room_1.cells room_1.slots) := by
  refine MetFree.of_bodySF (plainFor_of_name own_pn2) hisR ?_
  intro p e s m args below meth c s₁ Bd hml0 hP hK
  obtain ⟨rfl, hZ, hh⟩ := hP
  have hx := Bd.exec
  have hby := Bd.bytes
  have hml : c.maxLocals = 6 := hml0
  have hown : s.vm.findClass "com/example/hangslot/hangslot/AcquisitionTaken326PinLaw" = some m.cls := findClass_of_methodNamed Bd.named
  have hnm := (name_of_methodNamed Bd.named Bd.method).1
  have X0 : Stand p l e room_1 s m #[(.long p1)] below meth c s₁ [] 0 0 := Stand.of_body Bd
  have e0 : s₁.heap = h0 := by rw [← hh, Bd.state]; rfl
  have N0 := Fr.nil n0
  have pre0 : ∀ t, Steps p.tables e below (s₁.setTop (mkF m 0 #[.val (.long p1), .second, .unset, .unset, .unset, .unset] [])) t → Steps p.tables e below (s₁.setTop (entryFrame m #[(.long p1)] maxLocals)) t := fun t k => castTop (own_ef_rm0 m p1 A K) k
  have KK0 : Keep h0 h0 [] := Keep.refl _ _
  by_cases hp_1 : (0 : Int32) < (lcmpW p1 (0 : Int64))
  · obtain ⟨_, _, ⟨T12, L12, k12, n12⟩, -, X12, ⟨Lc12, hQ12, l12, y12, z12⟩, st12⟩ := Jvm.LawKit.callS X0 hx (y := (⟨"com/example/hangslot/hangslot/LockStore$Acquisition", "taken", "(J)Lcom/example/hangslot/hangslot/LockStore$Acquisition;"⟩ : MethodName)) hown (mvT hZ (hw _ (List.mem_of_getElem? (i := 0) rfl))) (mvT hZ (hw _ (List.mem_of_getElem? (i := 1) rfl))) (mvT hZ (hw _ (List.mem_of_getElem? (i := 2) rfl))) (mvT hZ (hw _ (List.mem_of_getElem? (i := 3) rfl))) (by decide) (backOf (W := 0) (rm1 l Z a0 hw [] h0 n0 p1 A K EN OL0) hZ (hw _ (List.mem_of_getElem? (i := 3) rfl)) (hw _ (List.mem_of_getElem? (i := 2) rfl)) (by decide) (by decide)) (g := (mkF m 1 #[.val (.long p1), .second, .unset, .unset, .unset, .unset] [(.long p1)])) rfl (by rw [hml]; rfl) (argsL := [(.long p1)]) (rest := []) (lenOf own_pd2 rfl) rfl (by show 2 * 0 + _ ≤ _; exact Nat.le_of_eq rfl) (hb hby at_1) (fun _ _ => ⟨rfl, e0, (by decide : 0 + 1 ≤ _), (by decide : 0 + 2 ≤ _)⟩)
    dsimp only [Pt.U, Pt.locs, Pt.cells, Pt.slots] at X12 l12 y12 z12 st12 hQ12
    subst l12 y12 z12
    obtain ⟨b12_b2, rfl, N12q, K12c, ⟨gn_b12_b2, szc_b12_b2⟩, f12_0, f12_1, f12_2⟩ := hQ12
    have N12 := Fr.app N0 N12q
    have sz_b12_b2 : h0.size ≤ b12_b2 := Nat.le_trans KK0.1 szc_b12_b2
    have OL12 : Old Z n0 T12.heap := OL0.keep K12c all0
    have KK12 : Keep h0 T12.heap [] := KK0.trans K12c all0
    obtain ⟨cq14, kq14, q14a, q14b, q14c⟩ := isOf hZ rfl f12_0
    obtain ⟨_, _, ⟨T14, L14, k14, n14⟩, -, X14, ⟨Lc14, hQ14, l14, y14, z14⟩, st14⟩ := X12.virtualBack hx (y := (⟨"com/example/hangslot/hangslot/LockStore$Acquisition", "fencingToken", "()J"⟩ : MethodName)) (z := (⟨"com/example/hangslot/hangslot/LockStore$Acquisition", "fencingToken", "()J"⟩ : MethodName)) hown (mvT hZ (hw _ (List.mem_of_getElem? (i := 22) rfl))) (mvT hZ (hw _ (List.mem_of_getElem? (i := 23) rfl))) (notFace_of_selects (args := #[]) (mvT hZ (hw _ (List.mem_of_getElem? (i := 25) rfl)))) (mvT hZ (hw _ (List.mem_of_getElem? (i := 25) rfl))) (mvT hZ (hw _ (List.mem_of_getElem? (i := 24) rfl))) (by decide) (backOf (W := 0) (rm4 l Z a0 hw [] T12.heap n0 p1 A K b12_b2 EN OL12 f12_1) hZ (hw _ (List.mem_of_getElem? (i := 26) rfl)) (hw _ (List.mem_of_getElem? (i := 2) rfl)) (by decide) (by decide)) q14a q14c (g := (mkF m 6 #[.val (.long p1), .second, .val (.ref b12_b2), .unset, .unset, .unset] [(.ref b12_b2)])) rfl (by rw [hml]; rfl) (Steps.refl _) (argsL := []) (rest := []) (lenOf own_pd3 rfl) rfl (by show 2 * 0 + _ ≤ _; exact Nat.le_of_eq rfl) (hb hby at_6) (fun _ _ => ⟨rfl, rfl, (by decide : 1 + 0 ≤ _), (by decide : 2 + 0 ≤ _)⟩)
    dsimp only [Pt.U, Pt.locs, Pt.cells, Pt.slots] at X14 l14 y14 z14 st14 hQ14
    subst l14 y14 z14
    obtain ⟨rfl, N14q, e14⟩ := hQ14
    have N14 := Fr.app N12 N14q
    obtain ⟨cq16, kq16, q16a, q16b, q16c⟩ := isOf hZ e14 f12_0
    obtain ⟨_, _, ⟨T16, L16, k16, n16⟩, -, X16, ⟨Lc16, hQ16, l16, y16, z16⟩, st16⟩ := X14.virtualBack hx (y := (⟨"com/example/hangslot/hangslot/LockStore$Acquisition", "millisUntilFree", "()J"⟩ : MethodName)) (z := (⟨"com/example/hangslot/hangslot/LockStore$Acquisition", "millisUntilFree", "()J"⟩ : MethodName)) hown (mvT hZ (hw _ (List.mem_of_getElem? (i := 27) rfl))) (mvT hZ (hw _ (List.mem_of_getElem? (i := 28) rfl))) (notFace_of_selects (args := #[]) (mvT hZ (hw _ (List.mem_of_getElem? (i := 30) rfl)))) (mvT hZ (hw _ (List.mem_of_getElem? (i := 30) rfl))) (mvT hZ (hw _ (List.mem_of_getElem? (i := 29) rfl))) (by decide) (backOf (W := 0) (rm5 l Z a0 hw [] T12.heap n0 p1 A K b12_b2 EN OL12 f12_2) hZ (hw _ (List.mem_of_getElem? (i := 31) rfl)) (hw _ (List.mem_of_getElem? (i := 2) rfl)) (by decide) (by decide)) q16a q16c (g := (mkF m 21 #[.val (.long p1), .second, .val (.ref b12_b2), .val (.int (1 : Int32)), .unset, .unset] [(.ref b12_b2)])) rfl (by rw [hml]; rfl) (Steps.refl _) (argsL := []) (rest := []) (lenOf own_pd3 rfl) rfl (by show 2 * 0 + _ ≤ _; exact Nat.le_of_eq rfl) (hb hby at_21) (fun _ _ => ⟨rfl, e14, (by decide : 1 + 0 ≤ _), (by decide : 2 + 0 ≤ _)⟩)
    dsimp only [Pt.U, Pt.locs, Pt.cells, Pt.slots] at X16 l16 y16 z16 st16 hQ16
    subst l16 y16 z16
    obtain ⟨rfl, N16q, e16⟩ := hQ16
    have N16 := Fr.app N14 N16q
    obtain ⟨cq18, kq18, q18a, q18b, q18c⟩ := isOf hZ e16 f12_0
    obtain ⟨_, _, ⟨T18, L18, k18, n18⟩, -, X18, ⟨Lc18, hQ18, l18, y18, z18⟩, st18⟩ := X16.virtualBack hx (y := (⟨"com/example/hangslot/hangslot/LockStore$Acquisition", "taken", "()Z"⟩ : MethodName)) (z := (⟨"com/example/hangslot/hangslot/LockStore$Acquisition", "taken", "()Z"⟩ : MethodName)) hown (mvT hZ (hw _ (List.mem_of_getElem? (i := 33) rfl))) (mvT hZ (hw _ (List.mem_of_getElem? (i := 34) rfl))) (notFace_of_selects (args := #[]) (mvT hZ (hw _ (List.mem_of_getElem? (i := 36) rfl)))) (mvT hZ (hw _ (List.mem_of_getElem? (i := 36) rfl))) (mvT hZ (hw _ (List.mem_of_getElem? (i := 35) rfl))) (by decide) (backOf (W := 0) (rm6 l Z a0 hw [] T12.heap n0 p1 A K b12_b2 EN OL12 f12_1 hp_1) hZ (hw _ (List.mem_of_getElem? (i := 37) rfl)) (hw _ (List.mem_of_getElem? (i := 2) rfl)) (by decide) (by decide)) q18a q18c (g := (mkF m 39 #[.val (.long p1), .second, .val (.ref b12_b2), .val (.int (1 : Int32)), .val (.int (1 : Int32)), .unset] [(.ref b12_b2)])) rfl (by rw [hml]; rfl) (Steps.refl _) (argsL := []) (rest := []) (lenOf own_pd4 rfl) rfl (by show 2 * 0 + _ ≤ _; exact Nat.le_of_eq rfl) (hb hby at_39) (fun _ _ => ⟨rfl, e16, (by decide : 1 + 0 ≤ _), (by decide : 2 + 0 ≤ _)⟩)
    dsimp only [Pt.U, Pt.locs, Pt.cells, Pt.slots] at X18 l18 y18 z18 st18 hQ18
    subst l18 y18 z18
    obtain ⟨rfl, N18q, e18⟩ := hQ18
    have N18 := Fr.app N16 N18q
    obtain ⟨fs, hr, hrun, hended, hW, hsame⟩ := X18.leave (v := some (.int (1 : Int32))) (fun h => by rw [Bd.returns] at h; cases h)
    refine ⟨_, _, pre0 _ ?_, hrun, hended, _, _, rfl, ?_, ⟨_, rfl⟩, hW, hsame.mono (by decide) (by decide)⟩
    · show Steps p.tables e below (s₁.setTop (mkF m 0 #[.val (.long p1), .second, .unset, .unset, .unset, .unset] [])) _
      refine XS.lloadN X0.here hx rfl (hb hby at_0) rfl ?_
      show Steps p.tables e below (s₁.setTop (mkF m 1 #[.val (.long p1), .second, .unset, .unset, .unset, .unset] [(.long p1)])) _
      refine st12 _ ?_
      show Steps p.tables e below (T12.setTop (mkF m 4 #[.val (.long p1), .second, .unset, .unset, .unset, .unset] [(.ref b12_b2)])) _
      refine XS.astoreN X12.here hx rfl (hb hby at_4) rfl rfl (l' := #[.val (.long p1), .second, .val (.ref b12_b2), .unset, .unset, .unset]) rfl ?_
      show Steps p.tables e below (T12.setTop (mkF m 5 #[.val (.long p1), .second, .val (.ref b12_b2), .unset, .unset, .unset] [])) _
      refine XS.aloadN X12.here hx rfl (hb hby at_5) rfl rfl ?_
      show Steps p.tables e below (T12.setTop (mkF m 6 #[.val (.long p1), .second, .val (.ref b12_b2), .unset, .unset, .unset] [(.ref b12_b2)])) _
      refine st14.trans ?_
      show Steps p.tables e below (T14.setTop (mkF m 9 #[.val (.long p1), .second, .val (.ref b12_b2), .unset, .unset, .unset] [(.long p1)])) _
      refine XS.lloadN X14.here hx rfl (hb hby at_9) rfl ?_
      show Steps p.tables e below (T14.setTop (mkF m 10 #[.val (.long p1), .second, .val (.ref b12_b2), .unset, .unset, .unset] [(.long p1), (.long p1)])) _
      refine XS.lcmp X14.here hx rfl (hb hby at_10) rfl ?_
      show Steps p.tables e below (T14.setTop (mkF m 11 #[.val (.long p1), .second, .val (.ref b12_b2), .unset, .unset, .unset] [(.int (lcmpW p1 p1))])) _
      refine XS.ifNo X14.here hx rfl (hb hby at_11) rfl ((if0 _ _).trans (teq (own_lc _)).2) ?_
      show Steps p.tables e below (T14.setTop (mkF m 14 #[.val (.long p1), .second, .val (.ref b12_b2), .unset, .unset, .unset] [])) _
      refine XS.iconst X14.here hx rfl (hb hby at_14) ?_
      show Steps p.tables e below (T14.setTop (mkF m 15 #[.val (.long p1), .second, .val (.ref b12_b2), .unset, .unset, .unset] [(.int (1 : Int32))])) _
      refine XS.goto X14.here hx rfl (pc0 := 15) (pc' := 19) rfl (hb hby at_15) (by decide) (by decide) ?_
      show Steps p.tables e below (T14.setTop (mkF m 19 #[.val (.long p1), .second, .val (.ref b12_b2), .unset, .unset, .unset] [(.int (1 : Int32))])) _
      refine XS.istoreN X14.here hx rfl (hb hby at_19) rfl (l' := #[.val (.long p1), .second, .val (.ref b12_b2), .val (.int (1 : Int32)), .unset, .unset]) rfl ?_
      show Steps p.tables e below (T14.setTop (mkF m 20 #[.val (.long p1), .second, .val (.ref b12_b2), .val (.int (1 : Int32)), .unset, .unset] [])) _
      refine XS.aloadN X14.here hx rfl (hb hby at_20) rfl rfl ?_
      show Steps p.tables e below (T14.setTop (mkF m 21 #[.val (.long p1), .second, .val (.ref b12_b2), .val (.int (1 : Int32)), .unset, .unset] [(.ref b12_b2)])) _
      refine st16.trans ?_
      show Steps p.tables e below (T16.setTop (mkF m 24 #[.val (.long p1), .second, .val (.ref b12_b2), .val (.int (1 : Int32)), .unset, .unset] [(.long (-1 : Int64))])) _
      refine X16.ldc2Long hx hown (mvT hZ (hw _ (List.mem_of_getElem? (i := 32) rfl))) (g := (mkF m 24 #[.val (.long p1), .second, .val (.ref b12_b2), .val (.int (1 : Int32)), .unset, .unset] [(.long (-1 : Int64))])) rfl (hb hby at_24) _ ?_
      show Steps p.tables e below (T16.setTop (mkF m 27 #[.val (.long p1), .second, .val (.ref b12_b2), .val (.int (1 : Int32)), .unset, .unset] [(.long (-1 : Int64)), (.long (-1 : Int64))])) _
      refine XS.lcmp X16.here hx rfl (hb hby at_27) rfl ?_
      show Steps p.tables e below (T16.setTop (mkF m 28 #[.val (.long p1), .second, .val (.ref b12_b2), .val (.int (1 : Int32)), .unset, .unset] [(.int (0 : Int32))])) _
      refine XS.ifNo X16.here hx rfl (hb hby at_28) rfl ((if0 _ _).trans (teq (by decide : (0 : Int32) = (0 : Int32))).2) ?_
      show Steps p.tables e below (T16.setTop (mkF m 31 #[.val (.long p1), .second, .val (.ref b12_b2), .val (.int (1 : Int32)), .unset, .unset] [])) _
      refine XS.iconst X16.here hx rfl (hb hby at_31) ?_
      show Steps p.tables e below (T16.setTop (mkF m 32 #[.val (.long p1), .second, .val (.ref b12_b2), .val (.int (1 : Int32)), .unset, .unset] [(.int (1 : Int32))])) _
      refine XS.goto X16.here hx rfl (pc0 := 32) (pc' := 36) rfl (hb hby at_32) (by decide) (by decide) ?_
      show Steps p.tables e below (T16.setTop (mkF m 36 #[.val (.long p1), .second, .val (.ref b12_b2), .val (.int (1 : Int32)), .unset, .unset] [(.int (1 : Int32))])) _
      refine XS.istore X16.here hx rfl (hb hby at_36) rfl (l' := #[.val (.long p1), .second, .val (.ref b12_b2), .val (.int (1 : Int32)), .val (.int (1 : Int32)), .unset]) rfl ?_
      show Steps p.tables e below (T16.setTop (mkF m 38 #[.val (.long p1), .second, .val (.ref b12_b2), .val (.int (1 : Int32)), .val (.int (1 : Int32)), .unset] [])) _
      refine XS.aloadN X16.here hx rfl (hb hby at_38) rfl rfl ?_
      show Steps p.tables e below (T16.setTop (mkF m 39 #[.val (.long p1), .second, .val (.ref b12_b2), .val (.int (1 : Int32)), .val (.int (1 : Int32)), .unset] [(.ref b12_b2)])) _
      refine st18.trans ?_
      show Steps p.tables e below (T18.setTop (mkF m 42 #[.val (.long p1), .second, .val (.ref b12_b2), .val (.int (1 : Int32)), .val (.int (1 : Int32)), .unset] [(.int (1 : Int32))])) _
      refine XS.lloadN X18.here hx rfl (hb hby at_42) rfl ?_
      show Steps p.tables e below (T18.setTop (mkF m 43 #[.val (.long p1), .second, .val (.ref b12_b2), .val (.int (1 : Int32)), .val (.int (1 : Int32)), .unset] [(.long p1), (.int (1 : Int32))])) _
      refine XS.lconst X18.here hx rfl (hb hby at_43) ?_
      show Steps p.tables e below (T18.setTop (mkF m 44 #[.val (.long p1), .second, .val (.ref b12_b2), .val (.int (1 : Int32)), .val (.int (1 : Int32)), .unset] [(.long (0 : Int64)), (.long p1), (.int (1 : Int32))])) _
      refine XS.lcmp X18.here hx rfl (hb hby at_44) rfl ?_
      show Steps p.tables e below (T18.setTop (mkF m 45 #[.val (.long p1), .second, .val (.ref b12_b2), .val (.int (1 : Int32)), .val (.int (1 : Int32)), .unset] [(.int (lcmpW p1 (0 : Int64))), (.int (1 : Int32))])) _
      refine XS.ifNo X18.here hx rfl (hb hby at_45) rfl ((if0 _ _).trans (tlt hp_1).2.2.2) ?_
      show Steps p.tables e below (T18.setTop (mkF m 48 #[.val (.long p1), .second, .val (.ref b12_b2), .val (.int (1 : Int32)), .val (.int (1 : Int32)), .unset] [(.int (1 : Int32))])) _
      refine XS.iconst X18.here hx rfl (hb hby at_48) ?_
      show Steps p.tables e below (T18.setTop (mkF m 49 #[.val (.long p1), .second, .val (.ref b12_b2), .val (.int (1 : Int32)), .val (.int (1 : Int32)), .unset] [(.int (1 : Int32)), (.int (1 : Int32))])) _
      refine XS.goto X18.here hx rfl (pc0 := 49) (pc' := 53) rfl (hb hby at_49) (by decide) (by decide) ?_
      show Steps p.tables e below (T18.setTop (mkF m 53 #[.val (.long p1), .second, .val (.ref b12_b2), .val (.int (1 : Int32)), .val (.int (1 : Int32)), .unset] [(.int (1 : Int32)), (.int (1 : Int32))])) _
      refine XS.icmpNo X18.here hx rfl (hb hby at_53) rfl (teq (by decide : (1 : Int32) = (1 : Int32))).2 ?_
      show Steps p.tables e below (T18.setTop (mkF m 56 #[.val (.long p1), .second, .val (.ref b12_b2), .val (.int (1 : Int32)), .val (.int (1 : Int32)), .unset] [])) _
      refine XS.iconst X18.here hx rfl (hb hby at_56) ?_
      show Steps p.tables e below (T18.setTop (mkF m 57 #[.val (.long p1), .second, .val (.ref b12_b2), .val (.int (1 : Int32)), .val (.int (1 : Int32)), .unset] [(.int (1 : Int32))])) _
      refine XS.goto X18.here hx rfl (pc0 := 57) (pc' := 61) rfl (hb hby at_57) (by decide) (by decide) ?_
      show Steps p.tables e below (T18.setTop (mkF m 61 #[.val (.long p1), .second, .val (.ref b12_b2), .val (.int (1 : Int32)), .val (.int (1 : Int32)), .unset] [(.int (1 : Int32))])) _
      refine XS.istore X18.here hx rfl (hb hby at_61) rfl (l' := #[.val (.long p1), .second, .val (.ref b12_b2), .val (.int (1 : Int32)), .val (.int (1 : Int32)), .val (.int (1 : Int32))]) rfl ?_
      show Steps p.tables e below (T18.setTop (mkF m 63 #[.val (.long p1), .second, .val (.ref b12_b2), .val (.int (1 : Int32)), .val (.int (1 : Int32)), .val (.int (1 : Int32))] [])) _
      refine XS.iloadN X18.here hx rfl (hb hby at_63) rfl ?_
      show Steps p.tables e below (T18.setTop (mkF m 64 #[.val (.long p1), .second, .val (.ref b12_b2), .val (.int (1 : Int32)), .val (.int (1 : Int32)), .val (.int (1 : Int32))] [(.int (1 : Int32))])) _
      refine XS.ifNo X18.here hx rfl (hb hby at_64) rfl ((if0 _ _).trans (feq (by decide : ¬ ((1 : Int32) = (0 : Int32)))).1) ?_
      show Steps p.tables e below (T18.setTop (mkF m 67 #[.val (.long p1), .second, .val (.ref b12_b2), .val (.int (1 : Int32)), .val (.int (1 : Int32)), .val (.int (1 : Int32))] [])) _
      refine XS.iload X18.here hx rfl (hb hby at_67) rfl ?_
      show Steps p.tables e below (T18.setTop (mkF m 69 #[.val (.long p1), .second, .val (.ref b12_b2), .val (.int (1 : Int32)), .val (.int (1 : Int32)), .val (.int (1 : Int32))] [(.int (1 : Int32))])) _
      refine XS.ifNo X18.here hx rfl (hb hby at_69) rfl ((if0 _ _).trans (feq (by decide : ¬ ((1 : Int32) = (0 : Int32)))).1) ?_
      show Steps p.tables e below (T18.setTop (mkF m 72 #[.val (.long p1), .second, .val (.ref b12_b2), .val (.int (1 : Int32)), .val (.int (1 : Int32)), .val (.int (1 : Int32))] [])) _
      refine XS.iload X18.here hx rfl (hb hby at_72) rfl ?_
      show Steps p.tables e below (T18.setTop (mkF m 74 #[.val (.long p1), .second, .val (.ref b12_b2), .val (.int (1 : Int32)), .val (.int (1 : Int32)), .val (.int (1 : Int32))] [(.int (1 : Int32))])) _
      refine XS.ifNo X18.here hx rfl (hb hby at_74) rfl ((if0 _ _).trans (feq (by decide : ¬ ((1 : Int32) = (0 : Int32)))).1) ?_
      show Steps p.tables e below (T18.setTop (mkF m 77 #[.val (.long p1), .second, .val (.ref b12_b2), .val (.int (1 : Int32)), .val (.int (1 : Int32)), .val (.int (1 : Int32))] [])) _
      refine XS.iconst X18.here hx rfl (hb hby at_77) ?_
      show Steps p.tables e below (T18.setTop (mkF m 78 #[.val (.long p1), .second, .val (.ref b12_b2), .val (.int (1 : Int32)), .val (.int (1 : Int32)), .val (.int (1 : Int32))] [(.int (1 : Int32))])) _
      refine XS.goto X18.here hx rfl (pc0 := 78) (pc' := 82) rfl (hb hby at_78) (by decide) (by decide) ?_
      show Steps p.tables e below (T18.setTop (mkF m 82 #[.val (.long p1), .second, .val (.ref b12_b2), .val (.int (1 : Int32)), .val (.int (1 : Int32)), .val (.int (1 : Int32))] [(.int (1 : Int32))])) _
      exact retN X18 hx (t := .boolean) Bd.returns (by simp) (hb hby at_82) hr
    · show LQ n0 _ T18.heap _
      exact ⟨rfl, N18, trivial⟩
  · obtain ⟨_, _, ⟨T19, L19, k19, n19⟩, -, X19, ⟨Lc19, hQ19, l19, y19, z19⟩, st19⟩ := Jvm.LawKit.callS X0 hx (y := (⟨"com/example/hangslot/hangslot/LockStore$Acquisition", "taken", "(J)Lcom/example/hangslot/hangslot/LockStore$Acquisition;"⟩ : MethodName)) hown (mvT hZ (hw _ (List.mem_of_getElem? (i := 0) rfl))) (mvT hZ (hw _ (List.mem_of_getElem? (i := 1) rfl))) (mvT hZ (hw _ (List.mem_of_getElem? (i := 2) rfl))) (mvT hZ (hw _ (List.mem_of_getElem? (i := 3) rfl))) (by decide) (backOf (W := 0) (rm1 l Z a0 hw [] h0 n0 p1 A K EN OL0) hZ (hw _ (List.mem_of_getElem? (i := 3) rfl)) (hw _ (List.mem_of_getElem? (i := 2) rfl)) (by decide) (by decide)) (g := (mkF m 1 #[.val (.long p1), .second, .unset, .unset, .unset, .unset] [(.long p1)])) rfl (by rw [hml]; rfl) (argsL := [(.long p1)]) (rest := []) (lenOf own_pd2 rfl) rfl (by show 2 * 0 + _ ≤ _; exact Nat.le_of_eq rfl) (hb hby at_1) (fun _ _ => ⟨rfl, e0, (by decide : 0 + 1 ≤ _), (by decide : 0 + 2 ≤ _)⟩)
    dsimp only [Pt.U, Pt.locs, Pt.cells, Pt.slots] at X19 l19 y19 z19 st19 hQ19
    subst l19 y19 z19
    obtain ⟨b19_b2, rfl, N19q, K19c, ⟨gn_b19_b2, szc_b19_b2⟩, f19_0, f19_1, f19_2⟩ := hQ19
    have N19 := Fr.app N0 N19q
    have sz_b19_b2 : h0.size ≤ b19_b2 := Nat.le_trans KK0.1 szc_b19_b2
    have OL19 : Old Z n0 T19.heap := OL0.keep K19c all0
    have KK19 : Keep h0 T19.heap [] := KK0.trans K19c all0
    obtain ⟨cq20, kq20, q20a, q20b, q20c⟩ := isOf hZ rfl f19_0
    obtain ⟨_, _, ⟨T20, L20, k20, n20⟩, -, X20, ⟨Lc20, hQ20, l20, y20, z20⟩, st20⟩ := X19.virtualBack hx (y := (⟨"com/example/hangslot/hangslot/LockStore$Acquisition", "fencingToken", "()J"⟩ : MethodName)) (z := (⟨"com/example/hangslot/hangslot/LockStore$Acquisition", "fencingToken", "()J"⟩ : MethodName)) hown (mvT hZ (hw _ (List.mem_of_getElem? (i := 22) rfl))) (mvT hZ (hw _ (List.mem_of_getElem? (i := 23) rfl))) (notFace_of_selects (args := #[]) (mvT hZ (hw _ (List.mem_of_getElem? (i := 25) rfl)))) (mvT hZ (hw _ (List.mem_of_getElem? (i := 25) rfl))) (mvT hZ (hw _ (List.mem_of_getElem? (i := 24) rfl))) (by decide) (backOf (W := 0) (rm4 l Z a0 hw [] T19.heap n0 p1 A K b19_b2 EN OL19 f19_1) hZ (hw _ (List.mem_of_getElem? (i := 26) rfl)) (hw _ (List.mem_of_getElem? (i := 2) rfl)) (by decide) (by decide)) q20a q20c (g := (mkF m 6 #[.val (.long p1), .second, .val (.ref b19_b2), .unset, .unset, .unset] [(.ref b19_b2)])) rfl (by rw [hml]; rfl) (Steps.refl _) (argsL := []) (rest := []) (lenOf own_pd3 rfl) rfl (by show 2 * 0 + _ ≤ _; exact Nat.le_of_eq rfl) (hb hby at_6) (fun _ _ => ⟨rfl, rfl, (by decide : 1 + 0 ≤ _), (by decide : 2 + 0 ≤ _)⟩)
    dsimp only [Pt.U, Pt.locs, Pt.cells, Pt.slots] at X20 l20 y20 z20 st20 hQ20
    subst l20 y20 z20
    obtain ⟨rfl, N20q, e20⟩ := hQ20
    have N20 := Fr.app N19 N20q
    obtain ⟨cq21, kq21, q21a, q21b, q21c⟩ := isOf hZ e20 f19_0
    obtain ⟨_, _, ⟨T21, L21, k21, n21⟩, -, X21, ⟨Lc21, hQ21, l21, y21, z21⟩, st21⟩ := X20.virtualBack hx (y := (⟨"com/example/hangslot/hangslot/LockStore$Acquisition", "millisUntilFree", "()J"⟩ : MethodName)) (z := (⟨"com/example/hangslot/hangslot/LockStore$Acquisition", "millisUntilFree", "()J"⟩ : MethodName)) hown (mvT hZ (hw _ (List.mem_of_getElem? (i := 27) rfl))) (mvT hZ (hw _ (List.mem_of_getElem? (i := 28) rfl))) (notFace_of_selects (args := #[]) (mvT hZ (hw _ (List.mem_of_getElem? (i := 30) rfl)))) (mvT hZ (hw _ (List.mem_of_getElem? (i := 30) rfl))) (mvT hZ (hw _ (List.mem_of_getElem? (i := 29) rfl))) (by decide) (backOf (W := 0) (rm5 l Z a0 hw [] T19.heap n0 p1 A K b19_b2 EN OL19 f19_2) hZ (hw _ (List.mem_of_getElem? (i := 31) rfl)) (hw _ (List.mem_of_getElem? (i := 2) rfl)) (by decide) (by decide)) q21a q21c (g := (mkF m 21 #[.val (.long p1), .second, .val (.ref b19_b2), .val (.int (1 : Int32)), .unset, .unset] [(.ref b19_b2)])) rfl (by rw [hml]; rfl) (Steps.refl _) (argsL := []) (rest := []) (lenOf own_pd3 rfl) rfl (by show 2 * 0 + _ ≤ _; exact Nat.le_of_eq rfl) (hb hby at_21) (fun _ _ => ⟨rfl, e20, (by decide : 1 + 0 ≤ _), (by decide : 2 + 0 ≤ _)⟩)
    dsimp only [Pt.U, Pt.locs, Pt.cells, Pt.slots] at X21 l21 y21 z21 st21 hQ21
    subst l21 y21 z21
    obtain ⟨rfl, N21q, e21⟩ := hQ21
    have N21 := Fr.app N20 N21q
    obtain ⟨cq23, kq23, q23a, q23b, q23c⟩ := isOf hZ e21 f19_0
    obtain ⟨_, _, ⟨T23, L23, k23, n23⟩, -, X23, ⟨Lc23, hQ23, l23, y23, z23⟩, st23⟩ := X21.virtualBack hx (y := (⟨"com/example/hangslot/hangslot/LockStore$Acquisition", "taken", "()Z"⟩ : MethodName)) (z := (⟨"com/example/hangslot/hangslot/LockStore$Acquisition", "taken", "()Z"⟩ : MethodName)) hown (mvT hZ (hw _ (List.mem_of_getElem? (i := 33) rfl))) (mvT hZ (hw _ (List.mem_of_getElem? (i := 34) rfl))) (notFace_of_selects (args := #[]) (mvT hZ (hw _ (List.mem_of_getElem? (i := 36) rfl)))) (mvT hZ (hw _ (List.mem_of_getElem? (i := 36) rfl))) (mvT hZ (hw _ (List.mem_of_getElem? (i := 35) rfl))) (by decide) (backOf (W := 0) (rm7 l Z a0 hw [] T19.heap n0 p1 A K b19_b2 EN OL19 f19_1 hp_1) hZ (hw _ (List.mem_of_getElem? (i := 37) rfl)) (hw _ (List.mem_of_getElem? (i := 2) rfl)) (by decide) (by decide)) q23a q23c (g := (mkF m 39 #[.val (.long p1), .second, .val (.ref b19_b2), .val (.int (1 : Int32)), .val (.int (1 : Int32)), .unset] [(.ref b19_b2)])) rfl (by rw [hml]; rfl) (Steps.refl _) (argsL := []) (rest := []) (lenOf own_pd4 rfl) rfl (by show 2 * 0 + _ ≤ _; exact Nat.le_of_eq rfl) (hb hby at_39) (fun _ _ => ⟨rfl, e21, (by decide : 1 + 0 ≤ _), (by decide : 2 + 0 ≤ _)⟩)
    dsimp only [Pt.U, Pt.locs, Pt.cells, Pt.slots] at X23 l23 y23 z23 st23 hQ23
    subst l23 y23 z23
    obtain ⟨rfl, N23q, e23⟩ := hQ23
    have N23 := Fr.app N21 N23q
    obtain ⟨fs, hr, hrun, hended, hW, hsame⟩ := X23.leave (v := some (.int (1 : Int32))) (fun h => by rw [Bd.returns] at h; cases h)
    refine ⟨_, _, pre0 _ ?_, hrun, hended, _, _, rfl, ?_, ⟨_, rfl⟩, hW, hsame.mono (by decide) (by decide)⟩
    · show Steps p.tables e below (s₁.setTop (mkF m 0 #[.val (.long p1), .second, .unset, .unset, .unset, .unset] [])) _
      refine XS.lloadN X0.here hx rfl (hb hby at_0) rfl ?_
      show Steps p.tables e below (s₁.setTop (mkF m 1 #[.val (.long p1), .second, .unset, .unset, .unset, .unset] [(.long p1)])) _
      refine st19 _ ?_
      show Steps p.tables e below (T19.setTop (mkF m 4 #[.val (.long p1), .second, .unset, .unset, .unset, .unset] [(.ref b19_b2)])) _
      refine XS.astoreN X19.here hx rfl (hb hby at_4) rfl rfl (l' := #[.val (.long p1), .second, .val (.ref b19_b2), .unset, .unset, .unset]) rfl ?_
      show Steps p.tables e below (T19.setTop (mkF m 5 #[.val (.long p1), .second, .val (.ref b19_b2), .unset, .unset, .unset] [])) _
      refine XS.aloadN X19.here hx rfl (hb hby at_5) rfl rfl ?_
      show Steps p.tables e below (T19.setTop (mkF m 6 #[.val (.long p1), .second, .val (.ref b19_b2), .unset, .unset, .unset] [(.ref b19_b2)])) _
      refine st20.trans ?_
      show Steps p.tables e below (T20.setTop (mkF m 9 #[.val (.long p1), .second, .val (.ref b19_b2), .unset, .unset, .unset] [(.long p1)])) _
      refine XS.lloadN X20.here hx rfl (hb hby at_9) rfl ?_
      show Steps p.tables e below (T20.setTop (mkF m 10 #[.val (.long p1), .second, .val (.ref b19_b2), .unset, .unset, .unset] [(.long p1), (.long p1)])) _
      refine XS.lcmp X20.here hx rfl (hb hby at_10) rfl ?_
      show Steps p.tables e below (T20.setTop (mkF m 11 #[.val (.long p1), .second, .val (.ref b19_b2), .unset, .unset, .unset] [(.int (lcmpW p1 p1))])) _
      refine XS.ifNo X20.here hx rfl (hb hby at_11) rfl ((if0 _ _).trans (teq (own_lc _)).2) ?_
      show Steps p.tables e below (T20.setTop (mkF m 14 #[.val (.long p1), .second, .val (.ref b19_b2), .unset, .unset, .unset] [])) _
      refine XS.iconst X20.here hx rfl (hb hby at_14) ?_
      show Steps p.tables e below (T20.setTop (mkF m 15 #[.val (.long p1), .second, .val (.ref b19_b2), .unset, .unset, .unset] [(.int (1 : Int32))])) _
      refine XS.goto X20.here hx rfl (pc0 := 15) (pc' := 19) rfl (hb hby at_15) (by decide) (by decide) ?_
      show Steps p.tables e below (T20.setTop (mkF m 19 #[.val (.long p1), .second, .val (.ref b19_b2), .unset, .unset, .unset] [(.int (1 : Int32))])) _
      refine XS.istoreN X20.here hx rfl (hb hby at_19) rfl (l' := #[.val (.long p1), .second, .val (.ref b19_b2), .val (.int (1 : Int32)), .unset, .unset]) rfl ?_
      show Steps p.tables e below (T20.setTop (mkF m 20 #[.val (.long p1), .second, .val (.ref b19_b2), .val (.int (1 : Int32)), .unset, .unset] [])) _
      refine XS.aloadN X20.here hx rfl (hb hby at_20) rfl rfl ?_
      show Steps p.tables e below (T20.setTop (mkF m 21 #[.val (.long p1), .second, .val (.ref b19_b2), .val (.int (1 : Int32)), .unset, .unset] [(.ref b19_b2)])) _
      refine st21.trans ?_
      show Steps p.tables e below (T21.setTop (mkF m 24 #[.val (.long p1), .second, .val (.ref b19_b2), .val (.int (1 : Int32)), .unset, .unset] [(.long (-1 : Int64))])) _
      refine X21.ldc2Long hx hown (mvT hZ (hw _ (List.mem_of_getElem? (i := 32) rfl))) (g := (mkF m 24 #[.val (.long p1), .second, .val (.ref b19_b2), .val (.int (1 : Int32)), .unset, .unset] [(.long (-1 : Int64))])) rfl (hb hby at_24) _ ?_
      show Steps p.tables e below (T21.setTop (mkF m 27 #[.val (.long p1), .second, .val (.ref b19_b2), .val (.int (1 : Int32)), .unset, .unset] [(.long (-1 : Int64)), (.long (-1 : Int64))])) _
      refine XS.lcmp X21.here hx rfl (hb hby at_27) rfl ?_
      show Steps p.tables e below (T21.setTop (mkF m 28 #[.val (.long p1), .second, .val (.ref b19_b2), .val (.int (1 : Int32)), .unset, .unset] [(.int (0 : Int32))])) _
      refine XS.ifNo X21.here hx rfl (hb hby at_28) rfl ((if0 _ _).trans (teq (by decide : (0 : Int32) = (0 : Int32))).2) ?_
      show Steps p.tables e below (T21.setTop (mkF m 31 #[.val (.long p1), .second, .val (.ref b19_b2), .val (.int (1 : Int32)), .unset, .unset] [])) _
      refine XS.iconst X21.here hx rfl (hb hby at_31) ?_
      show Steps p.tables e below (T21.setTop (mkF m 32 #[.val (.long p1), .second, .val (.ref b19_b2), .val (.int (1 : Int32)), .unset, .unset] [(.int (1 : Int32))])) _
      refine XS.goto X21.here hx rfl (pc0 := 32) (pc' := 36) rfl (hb hby at_32) (by decide) (by decide) ?_
      show Steps p.tables e below (T21.setTop (mkF m 36 #[.val (.long p1), .second, .val (.ref b19_b2), .val (.int (1 : Int32)), .unset, .unset] [(.int (1 : Int32))])) _
      refine XS.istore X21.here hx rfl (hb hby at_36) rfl (l' := #[.val (.long p1), .second, .val (.ref b19_b2), .val (.int (1 : Int32)), .val (.int (1 : Int32)), .unset]) rfl ?_
      show Steps p.tables e below (T21.setTop (mkF m 38 #[.val (.long p1), .second, .val (.ref b19_b2), .val (.int (1 : Int32)), .val (.int (1 : Int32)), .unset] [])) _
      refine XS.aloadN X21.here hx rfl (hb hby at_38) rfl rfl ?_
      show Steps p.tables e below (T21.setTop (mkF m 39 #[.val (.long p1), .second, .val (.ref b19_b2), .val (.int (1 : Int32)), .val (.int (1 : Int32)), .unset] [(.ref b19_b2)])) _
      refine st23.trans ?_
      show Steps p.tables e below (T23.setTop (mkF m 42 #[.val (.long p1), .second, .val (.ref b19_b2), .val (.int (1 : Int32)), .val (.int (1 : Int32)), .unset] [(.int (0 : Int32))])) _
      refine XS.lloadN X23.here hx rfl (hb hby at_42) rfl ?_
      show Steps p.tables e below (T23.setTop (mkF m 43 #[.val (.long p1), .second, .val (.ref b19_b2), .val (.int (1 : Int32)), .val (.int (1 : Int32)), .unset] [(.long p1), (.int (0 : Int32))])) _
      refine XS.lconst X23.here hx rfl (hb hby at_43) ?_
      show Steps p.tables e below (T23.setTop (mkF m 44 #[.val (.long p1), .second, .val (.ref b19_b2), .val (.int (1 : Int32)), .val (.int (1 : Int32)), .unset] [(.long (0 : Int64)), (.long p1), (.int (0 : Int32))])) _
      refine XS.lcmp X23.here hx rfl (hb hby at_44) rfl ?_
      show Steps p.tables e below (T23.setTop (mkF m 45 #[.val (.long p1), .second, .val (.ref b19_b2), .val (.int (1 : Int32)), .val (.int (1 : Int32)), .unset] [(.int (lcmpW p1 (0 : Int64))), (.int (0 : Int32))])) _
      refine XS.ifYes X23.here hx rfl (pc0 := 45) (pc' := 52) rfl (hb hby at_45) rfl ((if0 _ _).trans (flt hp_1).2.2.2) (by decide) (by decide) ?_
      show Steps p.tables e below (T23.setTop (mkF m 52 #[.val (.long p1), .second, .val (.ref b19_b2), .val (.int (1 : Int32)), .val (.int (1 : Int32)), .unset] [(.int (0 : Int32))])) _
      refine XS.iconst X23.here hx rfl (hb hby at_52) ?_
      show Steps p.tables e below (T23.setTop (mkF m 53 #[.val (.long p1), .second, .val (.ref b19_b2), .val (.int (1 : Int32)), .val (.int (1 : Int32)), .unset] [(.int (0 : Int32)), (.int (0 : Int32))])) _
      refine XS.icmpNo X23.here hx rfl (hb hby at_53) rfl (teq (by decide : (0 : Int32) = (0 : Int32))).2 ?_
      show Steps p.tables e below (T23.setTop (mkF m 56 #[.val (.long p1), .second, .val (.ref b19_b2), .val (.int (1 : Int32)), .val (.int (1 : Int32)), .unset] [])) _
      refine XS.iconst X23.here hx rfl (hb hby at_56) ?_
      show Steps p.tables e below (T23.setTop (mkF m 57 #[.val (.long p1), .second, .val (.ref b19_b2), .val (.int (1 : Int32)), .val (.int (1 : Int32)), .unset] [(.int (1 : Int32))])) _
      refine XS.goto X23.here hx rfl (pc0 := 57) (pc' := 61) rfl (hb hby at_57) (by decide) (by decide) ?_
      show Steps p.tables e below (T23.setTop (mkF m 61 #[.val (.long p1), .second, .val (.ref b19_b2), .val (.int (1 : Int32)), .val (.int (1 : Int32)), .unset] [(.int (1 : Int32))])) _
      refine XS.istore X23.here hx rfl (hb hby at_61) rfl (l' := #[.val (.long p1), .second, .val (.ref b19_b2), .val (.int (1 : Int32)), .val (.int (1 : Int32)), .val (.int (1 : Int32))]) rfl ?_
      show Steps p.tables e below (T23.setTop (mkF m 63 #[.val (.long p1), .second, .val (.ref b19_b2), .val (.int (1 : Int32)), .val (.int (1 : Int32)), .val (.int (1 : Int32))] [])) _
      refine XS.iloadN X23.here hx rfl (hb hby at_63) rfl ?_
      show Steps p.tables e below (T23.setTop (mkF m 64 #[.val (.long p1), .second, .val (.ref b19_b2), .val (.int (1 : Int32)), .val (.int (1 : Int32)), .val (.int (1 : Int32))] [(.int (1 : Int32))])) _
      refine XS.ifNo X23.here hx rfl (hb hby at_64) rfl ((if0 _ _).trans (feq (by decide : ¬ ((1 : Int32) = (0 : Int32)))).1) ?_
      show Steps p.tables e below (T23.setTop (mkF m 67 #[.val (.long p1), .second, .val (.ref b19_b2), .val (.int (1 : Int32)), .val (.int (1 : Int32)), .val (.int (1 : Int32))] [])) _
      refine XS.iload X23.here hx rfl (hb hby at_67) rfl ?_
      show Steps p.tables e below (T23.setTop (mkF m 69 #[.val (.long p1), .second, .val (.ref b19_b2), .val (.int (1 : Int32)), .val (.int (1 : Int32)), .val (.int (1 : Int32))] [(.int (1 : Int32))])) _
      refine XS.ifNo X23.here hx rfl (hb hby at_69) rfl ((if0 _ _).trans (feq (by decide : ¬ ((1 : Int32) = (0 : Int32)))).1) ?_
      show Steps p.tables e below (T23.setTop (mkF m 72 #[.val (.long p1), .second, .val (.ref b19_b2), .val (.int (1 : Int32)), .val (.int (1 : Int32)), .val (.int (1 : Int32))] [])) _
      refine XS.iload X23.here hx rfl (hb hby at_72) rfl ?_
      show Steps p.tables e below (T23.setTop (mkF m 74 #[.val (.long p1), .second, .val (.ref b19_b2), .val (.int (1 : Int32)), .val (.int (1 : Int32)), .val (.int (1 : Int32))] [(.int (1 : Int32))])) _
      refine XS.ifNo X23.here hx rfl (hb hby at_74) rfl ((if0 _ _).trans (feq (by decide : ¬ ((1 : Int32) = (0 : Int32)))).1) ?_
      show Steps p.tables e below (T23.setTop (mkF m 77 #[.val (.long p1), .second, .val (.ref b19_b2), .val (.int (1 : Int32)), .val (.int (1 : Int32)), .val (.int (1 : Int32))] [])) _
      refine XS.iconst X23.here hx rfl (hb hby at_77) ?_
      show Steps p.tables e below (T23.setTop (mkF m 78 #[.val (.long p1), .second, .val (.ref b19_b2), .val (.int (1 : Int32)), .val (.int (1 : Int32)), .val (.int (1 : Int32))] [(.int (1 : Int32))])) _
      refine XS.goto X23.here hx rfl (pc0 := 78) (pc' := 82) rfl (hb hby at_78) (by decide) (by decide) ?_
      show Steps p.tables e below (T23.setTop (mkF m 82 #[.val (.long p1), .second, .val (.ref b19_b2), .val (.int (1 : Int32)), .val (.int (1 : Int32)), .val (.int (1 : Int32))] [(.int (1 : Int32))])) _
      exact retN X23 hx (t := .boolean) Bd.returns (by simp) (hb hby at_82) hr
    · show LQ n0 _ T23.heap _
      exact ⟨rfl, N23, trivial⟩
set_option maxRecDepth 65536 in
set_option maxHeartbeats 40000000 in
theorem comes_1 {Post : Tables → Env → Array Value → State → Outcome → State → Prop} (hpost : ∀ tb e args s v u, (limb_1_1.after args s (.returned v) u = true ∧ limb_1_2.after args s (.returned v) u = true ∧ True) → FrameEnd s (.returned v) u (Jvm.fieldLocs frame_1_writes args s ++ Jvm.arrayLocs frame_1_arrays args s ++ Jvm.staticLocs frame_1_statics s) 16 128 → Post tb e args s (.returned v) u) :
    ArmFor flags0 classFile x code maxLocals ret World_1 tables_1 room_1 Calls_1 rest_1 Pre_1 Post := by
  intro l hfl _ _ p e ha hc hk s m args below hf hA hF happ hP
  obtain ⟨hcalls, hrest, hpre⟩ := hP
  obtain ⟨-, -, -, hnamed, -, -, -, hat⟩ := (Spec.applies_iff hf).mp happ
  obtain ⟨hg, hn⟩ := and_e (Cond.before_iff.mp (show (Jvm.Cond.and given_1 narrow_1).before args s = true from hpre))
  obtain ⟨gA0, gB0⟩ := and_e hg
  obtain ⟨w0, rfl⟩ : ∃ w0 : Value, args = #[w0] := by
    have hs : args.size = 1 := by simpa [Cond.value, given_1] using gA0
    obtain ⟨L⟩ := args
    match L, hs with
    | [w0], _ => exact ⟨w0, rfl⟩
  have hw := fun d (hd : d ∈ tables_1) => atoms_spec (ws := Jvm.Cond.code x code maxLocals ret :: tables_1) hat d (List.mem_cons_of_mem _ hd)
  have hfit : Fit s := fun {y c} hc i hi => by
    obtain ⟨ha, rfl⟩ := Array.getElem?_eq_some_iff.mp hc
    have q := List.all_eq_true.mp ((Array.all_eq_true_iff_forall_mem.mp hF) _ (Array.getElem_mem ha)) i (List.mem_range.mpr hi)
    simpa [Array.getElem?_eq_getElem hi] using q
  obtain ⟨i0, ei0⟩ := isL_v gB0
  obtain rfl : w0 = (.long i0) := Option.some.inj ei0
  have EN : own_St s (fun n => [].getD n 0) (fun n => [].getD n 0) := trivial
  obtain ⟨n, o, h1, h2, h3, _, L, rfl, hQ, hq⟩ := rm0 l s _ hw tables_1 s.heap s.heap.size i0 (fun n => [].getD n 0) (fun n => [].getD n 0) EN (Old.start s) p e ha hc hk s m _ below hf ((Spec.applies_iff_loose hf).mp happ).1 ⟨rfl, State.Warmed39.refl s, rfl⟩ trivial
  obtain ⟨rfl, N, -⟩ := hQ
  refine ⟨n, _, h1, h2, h3, hpost _ _ _ _ _ _ ⟨Cond.after_iff.mpr rfl, Cond.after_iff.mpr (eq_i res_at (Term.int_eval (1)) rfl), trivial⟩ ⟨hq.1, hq.2.1, (hq.2.2.sift fun y hy => Or.inr (N y hy)).mono (by decide) (by decide)⟩⟩
theorem main_1_1 : Claimed_1_1 := comes_1 fun _ _ _ _ _ _ h hF => ⟨h.1, hF⟩
theorem main_1_2 : Claimed_1_2 := comes_1 fun _ _ _ _ _ _ h hF => ⟨h.2.1, hF⟩
end Jvm.Pilot.@@N@@
namespace Jvm.Pilot.@@N@@
open Jvm Jvm.ClassFile Sem Op Lib Jvm.Free Jvm.Stand Jvm.Pilot.@@N@@.Jvm.D
/-! MADE BY PROGRAM (witnessworld.py) out of the Statement's table words and the real class files: 10 classes; the members and pool entries that the words name. The judged class is class 1, her method 1. -/
namespace start1
open Jvm.ClassFile
def u (s : String) : CpInfo := .utf8 (stringToUtf16 s)
/-- a pool by its gaps: so many unusable entries, then the entry; so many at the end -/
def gap : Nat → List CpInfo → List CpInfo
  | 0, r => r
  | n + 1, r => .unusable :: gap n r
def poolList (es : List (Nat × CpInfo)) (last : Nat) : List CpInfo := es.foldr (fun e r => gap e.1 (e.2 :: r)) (gap last [])
def pool (es : List (Nat × CpInfo)) (last : Nat) : Array CpInfo := ⟨poolList es last⟩
def fileOf (pool : Array CpInfo) (this : Nat) (attrs : Array Attribute := #[]) (ms : Array MethodInfo := #[]) (fl : Nat := 33) (sup : Nat := 0) (ifs : Array Nat := #[]) (fds : Array FieldInfo := #[]) : ClassFile where
  minorVersion := 0
  majorVersion := 65
  constantPool := pool
  accessFlags := fl
  thisClass := this
  superClass := sup
  interfaces := ifs
  fields := fds
  methods := ms
  attributes := attrs
def plain (name : String) (sup : Option ClassId) : Class where
  name := name
  kind := .ordinary
  loader := none
  accessFlags := 33
  super := sup
  interfaces := #[]
  cf := none
  fields := #[]
  methods := #[]
  instanceTypes := #[]
  staticTypes := #[]
  resolved := #[]
  callSites := []
  init := .initialized
  statics := none
  mirror := none

def pool0 : Array CpInfo := pool [(5, u "<init>"), (0, u "()V"), (1, .class_ 10), (1, u "java/lang/Object")] 113

def k0c0 : Code := { maxStack := 0, maxLocals := 1, code := object_method_1_code, exceptionTable := #[], attributes := #[] }
def k0m0 : Method := { name := "<init>", desc := "()V", sig := { parameters := [], returnType := none }, accessFlags := 1, code := some k0c0 }
/-- java/lang/Object -/
def k0 : Class := { plain "java/lang/Object" none with
  accessFlags := 33
  interfaces := #[]
  cf := some (fileOf pool0 8 #[] #[{ accessFlags := 1, nameIndex := 5, descriptorIndex := 6, attributes := #[] }] 33 0 #[] #[])
  fields := #[]
  methods := #[k0m0]
  instanceTypes := #[]
  staticTypes := #[]
  resolved := Array.replicate 124 none
  statics := none }

def pool1 : Array CpInfo := pool [(2, .class_ 4), (1, u "java/lang/Object"), (0, u "<init>"), (0, u "()V"), (0, .methodref 8 9), (0, .class_ 10), (0, .nameAndType 11 12), (0, u "com/example/hangslot/hangslot/LockStore$Acquisition"), (0, u "taken"), (0, u "(J)Lcom/example/hangslot/hangslot/LockStore$Acquisition;"), (0, .methodref 8 14), (0, .nameAndType 15 16), (0, u "fencingToken"), (0, u "()J"), (0, .methodref 8 18), (0, .nameAndType 19 16), (0, u "millisUntilFree"), (0, .long 18446744073709551615), (1, .methodref 8 23), (0, .nameAndType 11 24), (0, u "()Z"), (0, .class_ 26), (0, u "com/example/hangslot/hangslot/AcquisitionTaken326PinLaw"), (2, u "law"), (0, u "(J)Z")] 7

def k1m0 : Method := { name := "<init>", desc := "()V", sig := { parameters := [], returnType := none }, accessFlags := 1, code := none }
def k1c1 : Code := { maxStack := 5, maxLocals := 6, code := code, exceptionTable := #[], attributes := #[] }
def k1m1 : Method := { name := "law", desc := "(J)Z", sig := { parameters := [.long], returnType := some .boolean }, accessFlags := 9, code := some k1c1 }
/-- com/example/hangslot/hangslot/AcquisitionTaken326PinLaw -/
def k1 : Class := { plain "com/example/hangslot/hangslot/AcquisitionTaken326PinLaw" (some 0) with
  accessFlags := 49
  interfaces := #[]
  cf := some (fileOf pool1 25 #[] #[{ accessFlags := 1, nameIndex := 5, descriptorIndex := 6, attributes := #[] }, { accessFlags := 9, nameIndex := 29, descriptorIndex := 30, attributes := #[] }] 49 2 #[] #[])
  fields := #[]
  methods := #[k1m0, k1m1]
  instanceTypes := #[]
  staticTypes := #[]
  resolved := Array.replicate 38 none
  statics := none }

def pool2 : Array CpInfo := pool [(1, .methodref 2 3), (0, .class_ 4), (0, .nameAndType 5 6), (0, u "java/lang/Object"), (0, u "<init>"), (0, u "()V"), (0, .class_ 8), (0, u "java/lang/Record")] 13

def k2c0 : Code := { maxStack := 1, maxLocals := 1, code := jdk_30_method_1_code, exceptionTable := #[], attributes := #[] }
def k2m0 : Method := { name := "<init>", desc := "()V", sig := { parameters := [], returnType := none }, accessFlags := 4, code := some k2c0 }
/-- java/lang/Record -/
def k2 : Class := { plain "java/lang/Record" (some 0) with
  accessFlags := 1057
  interfaces := #[]
  cf := some (fileOf pool2 7 #[] #[{ accessFlags := 4, nameIndex := 5, descriptorIndex := 6, attributes := #[] }] 1057 2 #[] #[])
  fields := #[]
  methods := #[k2m0]
  instanceTypes := #[]
  staticTypes := #[]
  resolved := Array.replicate 22 none
  statics := none }

def pool3 : Array CpInfo := pool [(1, .methodref 2 3), (0, .class_ 4), (0, .nameAndType 5 6), (0, u "java/lang/Record"), (0, u "<init>"), (0, u "()V"), (0, .fieldref 8 9), (0, .class_ 10), (0, .nameAndType 11 12), (0, u "com/example/hangslot/hangslot/LockStore$Acquisition"), (0, u "fencingToken"), (0, u "J"), (0, .fieldref 8 14), (0, .nameAndType 15 12), (0, u "millisUntilFree"), (0, .long 18446744073709551615), (1, .methodref 8 19), (0, .nameAndType 5 20), (0, u "(JJ)V"), (14, u "REFUSED"), (0, u "Lcom/example/hangslot/hangslot/LockStore$Acquisition;"), (0, u "UNKNOWN"), (4, u "taken"), (0, u "(J)Lcom/example/hangslot/hangslot/LockStore$Acquisition;"), (1, u "()Z"), (4, u "()J"), (4, .class_ 56), (0, u "com/example/hangslot/hangslot/LockStore")] 20

def k3c0 : Code := { maxStack := 3, maxLocals := 5, code := prog_8_method_1_code, exceptionTable := #[], attributes := #[] }
def k3m0 : Method := { name := "<init>", desc := "(JJ)V", sig := { parameters := [.long, .long], returnType := none }, accessFlags := 1, code := some k3c0 }
def k3c1 : Code := { maxStack := 6, maxLocals := 2, code := prog_8_method_2_code, exceptionTable := #[], attributes := #[] }
def k3m1 : Method := { name := "taken", desc := "(J)Lcom/example/hangslot/hangslot/LockStore$Acquisition;", sig := { parameters := [.long], returnType := some (.object "com/example/hangslot/hangslot/LockStore$Acquisition") }, accessFlags := 8, code := some k3c1 }
def k3c2 : Code := { maxStack := 4, maxLocals := 1, code := prog_8_method_4_code, exceptionTable := #[], attributes := #[] }
def k3m2 : Method := { name := "taken", desc := "()Z", sig := { parameters := [], returnType := some .boolean }, accessFlags := 0, code := some k3c2 }
def k3c3 : Code := { maxStack := 2, maxLocals := 1, code := prog_8_method_8_code, exceptionTable := #[], attributes := #[] }
def k3m3 : Method := { name := "fencingToken", desc := "()J", sig := { parameters := [], returnType := some .long }, accessFlags := 1, code := some k3c3 }
def k3c4 : Code := { maxStack := 2, maxLocals := 1, code := prog_8_method_9_code, exceptionTable := #[], attributes := #[] }
def k3m4 : Method := { name := "millisUntilFree", desc := "()J", sig := { parameters := [], returnType := some .long }, accessFlags := 1, code := some k3c4 }
/-- com/example/hangslot/hangslot/LockStore$Acquisition -/
def k3 : Class := { plain "com/example/hangslot/hangslot/LockStore$Acquisition" (some 2) with
  accessFlags := 49
  interfaces := #[]
  cf := some (fileOf pool3 8 #[.nestHost 55] #[{ accessFlags := 1, nameIndex := 5, descriptorIndex := 20, attributes := #[] }, { accessFlags := 8, nameIndex := 42, descriptorIndex := 43, attributes := #[] }, { accessFlags := 0, nameIndex := 42, descriptorIndex := 45, attributes := #[] }, { accessFlags := 1, nameIndex := 11, descriptorIndex := 50, attributes := #[] }, { accessFlags := 1, nameIndex := 15, descriptorIndex := 50, attributes := #[] }] 49 2 #[] #[{ accessFlags := 18, nameIndex := 11, descriptorIndex := 12, attributes := #[] }, { accessFlags := 18, nameIndex := 15, descriptorIndex := 12, attributes := #[] }, { accessFlags := 24, nameIndex := 37, descriptorIndex := 12, attributes := #[] }, { accessFlags := 24, nameIndex := 35, descriptorIndex := 36, attributes := #[] }])
  fields := #[{ name := "fencingToken", type := .long, accessFlags := 18, slot := 0, constantValue := 0 }, { name := "millisUntilFree", type := .long, accessFlags := 18, slot := 1, constantValue := 0 }, { name := "UNKNOWN", type := .long, accessFlags := 24, slot := 0, constantValue := 0 }, { name := "REFUSED", type := (.object "com/example/hangslot/hangslot/LockStore$Acquisition"), accessFlags := 24, slot := 1, constantValue := 0 }]
  methods := #[k3m0, k3m1, k3m2, k3m3, k3m4]
  instanceTypes := #[.long, .long]
  staticTypes := #[.long, (.object "com/example/hangslot/hangslot/LockStore$Acquisition")]
  resolved := Array.replicate 77 none
  statics := none }

def pool4 : Array CpInfo := pool [(1, u "java/lang/Cloneable"), (0, .class_ 1), (0, u "java/lang/Object"), (0, .class_ 3)] 3

/-- java/lang/Cloneable -/
def k4 : Class := { plain "java/lang/Cloneable" (some 0) with
  accessFlags := 1537
  interfaces := #[]
  cf := some (fileOf pool4 2 #[] #[] 1537 4 #[] #[])
  fields := #[]
  methods := #[]
  instanceTypes := #[]
  staticTypes := #[]
  resolved := Array.replicate 8 none
  statics := none }

def pool5 : Array CpInfo := pool [(1, u "java/io/Serializable"), (0, .class_ 1), (0, u "java/lang/Object"), (0, .class_ 3)] 3

/-- java/io/Serializable -/
def k5 : Class := { plain "java/io/Serializable" (some 0) with
  accessFlags := 1537
  interfaces := #[]
  cf := some (fileOf pool5 2 #[] #[] 1537 4 #[] #[])
  fields := #[]
  methods := #[]
  instanceTypes := #[]
  staticTypes := #[]
  resolved := Array.replicate 8 none
  statics := none }

/-- the primitive byte -/
def k6 : Class := { plain "byte" none with kind := .primitive 'B', accessFlags := 0x411 }
/-- [B -/
def k7 : Class := { plain "[B" (some 0) with kind := .array 6 .byte, interfaces := #[4, 5], accessFlags := 1041 }

/-- the primitive int -/
def k8 : Class := { plain "int" none with kind := .primitive 'I', accessFlags := 0x411 }
/-- [I -/
def k9 : Class := { plain "[I" (some 0) with kind := .array 8 .int, interfaces := #[4, 5], accessFlags := 1041 }

def heap : Heap := #[]
def classes : Array Class := #[k0, k1, k2, k3, k4, k5, k6, k7, k8, k9]
def interned : List (Array UInt16 × Addr) := []
def slotsUsed : Nat := 0
def theMethod : MethodId := ⟨1, 1⟩
def args0 : Array Value := #[.long 5]
def aboutOver (below : List Frame) : State where
  vm := { classes := classes, interned := interned.toArray }
  heap := heap
  slotsUsed := slotsUsed
  threads := #[{ frames := .invoking theMethod args0 :: below }]
def below0 : List Frame := [.native { method := ⟨0, 0⟩, args := #[] }]
def about1 : State := aboutOver below0
def p0 : Program := .bare "" "" ""
def e0 : Env := launch0.env 0 0 0
theorem w_frames : about1.frames = Frame.invoking theMethod args0 :: below0 := rfl
set_option maxRecDepth 65536 in
theorem w_args : argsFit about1.vm theMethod args0 = true := by decide +kernel
set_option maxRecDepth 65536 in
theorem w_heap : heapFits about1 = true := by decide +kernel
set_option maxRecDepth 65536 in
theorem w_runnable : about1.curStatus? = some .runnable := by decide +kernel
set_option maxRecDepth 65536 in
theorem w_alone : about1.alone = true := by decide +kernel
set_option maxRecDepth 65536 in
theorem w_named : about1.methodNamed? x = some theMethod := by decide +kernel
set_option maxRecDepth 65536 in
theorem w_hears : about1.hears theMethod below0 = true := by decide +kernel
set_option maxRecDepth 65536 in
theorem w_ripe : about1.ripe theMethod args0 below0 = true := by decide +kernel
theorem w_running : about1.status = .running := rfl
set_option maxRecDepth 65536 in
theorem w_room : about1.hasRoom e0.platform room_1 = true :=
  launch0.hasRoom_least _ room_1 (by decide +kernel) (by decide +kernel) (by decide +kernel) (by decide +kernel) (by decide +kernel) (by decide +kernel)
theorem allAtoms_all (ts : List Jvm.Cond) (a : Array Jvm.Value) (st : Jvm.State) : (allAtoms ts).before a st = ts.all (fun c => c.before a st) := by
  induction ts with
  | nil => rfl
  | cons c t ih =>
    show (Jvm.Cond.and c (allAtoms t)).before a st = _
    rw [Jvm.Cond.before_and, ih, List.all_cons]
def words1 : List Jvm.Cond := Jvm.Cond.code x code maxLocals ret :: tables_1
/-- a 'code' word, met by the world's own term for the bytes: nothing is compared byte by byte -/
theorem code_word {y : MethodName} {bytes : ByteArray} {mx : Nat} {rt : Option FieldType} {a : Array Value} {s : State} {m : MethodId} {meth : Method} {c : Code} (h1 : s.methodNamed? y = some m) (h2 : s.vm.method? m = some meth) (h3 : meth.code = some c) (h4 : c.code = bytes)
    (h5 : (c.maxLocals == mx && c.exceptionTable.isEmpty && decide (c.maxStack ≤ mostOperands) && decide (meth.sig.returnType = rt) && !meth.locks && decide (parseMethodDescriptor y.desc = some meth.sig)) = true) : (Jvm.Cond.code y bytes mx rt).before a s = true := by
  simp only [Bool.and_eq_true, beq_iff_eq, Bool.not_eq_true', decide_eq_true_eq] at h5
  obtain ⟨⟨⟨⟨⟨g1, g2⟩, g3⟩, g4⟩, g5⟩, g6⟩ := h5
  simp [Cond.before, Cond.holds, Cond.value, h1, h2, h3, h4, g1, g2, g3, g4, g5, g6]
def isCode : Jvm.Cond → Bool
  | .code _ _ _ _ => true
  | _ => false
theorem all_split {L : List Jvm.Cond} {P : Jvm.Cond → Bool} (h1 : L.all (fun c => isCode c || P c) = true) (h2 : ∀ c ∈ L.filter isCode, P c = true) : L.all P = true := by
  refine List.all_eq_true.mpr fun c hc => ?_
  have h := List.all_eq_true.mp h1 c hc
  rcases Bool.eq_false_or_eq_true (isCode c) with hi | hi
  · exact h2 c (List.mem_filter.mpr ⟨hc, hi⟩)
  · simpa [hi] using h
set_option maxRecDepth 65536 in
theorem w_c0 : (Jvm.Cond.code x code maxLocals ret).before args0 about1 = true := code_word (m := ⟨1, 1⟩) (meth := k1m1) (c := k1c1) (by decide +kernel) rfl rfl rfl (by decide +kernel)
set_option maxRecDepth 65536 in
theorem w_c1 : (Jvm.Cond.code ({ cls := "com/example/hangslot/hangslot/LockStore$Acquisition", name := "taken", desc := "(J)Lcom/example/hangslot/hangslot/LockStore$Acquisition;" } : Jvm.MethodName) prog_8_method_2_code (2 : Nat) (Option.some (Jvm.ClassFile.FieldType.object "com/example/hangslot/hangslot/LockStore$Acquisition"))).before args0 about1 = true := code_word (m := ⟨3, 1⟩) (meth := k3m1) (c := k3c1) (by decide +kernel) rfl rfl rfl (by decide +kernel)
set_option maxRecDepth 65536 in
theorem w_c2 : (Jvm.Cond.code ({ cls := "com/example/hangslot/hangslot/LockStore$Acquisition", name := "<init>", desc := "(JJ)V" } : Jvm.MethodName) prog_8_method_1_code (5 : Nat) (Option.none : Option Jvm.ClassFile.FieldType)).before args0 about1 = true := code_word (m := ⟨3, 0⟩) (meth := k3m0) (c := k3c0) (by decide +kernel) rfl rfl rfl (by decide +kernel)
set_option maxRecDepth 65536 in
theorem w_c3 : (Jvm.Cond.code ({ cls := "java/lang/Record", name := "<init>", desc := "()V" } : Jvm.MethodName) jdk_30_method_1_code (1 : Nat) (Option.none : Option Jvm.ClassFile.FieldType)).before args0 about1 = true := code_word (m := ⟨2, 0⟩) (meth := k2m0) (c := k2c0) (by decide +kernel) rfl rfl rfl (by decide +kernel)
set_option maxRecDepth 65536 in
theorem w_c4 : (Jvm.Cond.code ({ cls := "java/lang/Object", name := "<init>", desc := "()V" } : Jvm.MethodName) object_method_1_code (1 : Nat) (Option.none : Option Jvm.ClassFile.FieldType)).before args0 about1 = true := code_word (m := ⟨0, 0⟩) (meth := k0m0) (c := k0c0) (by decide +kernel) rfl rfl rfl (by decide +kernel)
set_option maxRecDepth 65536 in
theorem w_c5 : (Jvm.Cond.code ({ cls := "com/example/hangslot/hangslot/LockStore$Acquisition", name := "fencingToken", desc := "()J" } : Jvm.MethodName) prog_8_method_8_code (1 : Nat) (Option.some Jvm.ClassFile.FieldType.long)).before args0 about1 = true := code_word (m := ⟨3, 3⟩) (meth := k3m3) (c := k3c3) (by decide +kernel) rfl rfl rfl (by decide +kernel)
set_option maxRecDepth 65536 in
theorem w_c6 : (Jvm.Cond.code ({ cls := "com/example/hangslot/hangslot/LockStore$Acquisition", name := "millisUntilFree", desc := "()J" } : Jvm.MethodName) prog_8_method_9_code (1 : Nat) (Option.some Jvm.ClassFile.FieldType.long)).before args0 about1 = true := code_word (m := ⟨3, 4⟩) (meth := k3m4) (c := k3c4) (by decide +kernel) rfl rfl rfl (by decide +kernel)
set_option maxRecDepth 65536 in
theorem w_c7 : (Jvm.Cond.code ({ cls := "com/example/hangslot/hangslot/LockStore$Acquisition", name := "taken", desc := "()Z" } : Jvm.MethodName) prog_8_method_4_code (1 : Nat) (Option.some Jvm.ClassFile.FieldType.boolean)).before args0 about1 = true := code_word (m := ⟨3, 2⟩) (meth := k3m2) (c := k3c2) (by decide +kernel) rfl rfl rfl (by decide +kernel)
def codes1 : List Jvm.Cond := [Jvm.Cond.code x code maxLocals ret, Jvm.Cond.code ({ cls := "com/example/hangslot/hangslot/LockStore$Acquisition", name := "taken", desc := "(J)Lcom/example/hangslot/hangslot/LockStore$Acquisition;" } : Jvm.MethodName) prog_8_method_2_code (2 : Nat) (Option.some (Jvm.ClassFile.FieldType.object "com/example/hangslot/hangslot/LockStore$Acquisition")), Jvm.Cond.code ({ cls := "com/example/hangslot/hangslot/LockStore$Acquisition", name := "<init>", desc := "(JJ)V" } : Jvm.MethodName) prog_8_method_1_code (5 : Nat) (Option.none : Option Jvm.ClassFile.FieldType), Jvm.Cond.code ({ cls := "java/lang/Record", name := "<init>", desc := "()V" } : Jvm.MethodName) jdk_30_method_1_code (1 : Nat) (Option.none : Option Jvm.ClassFile.FieldType), Jvm.Cond.code ({ cls := "java/lang/Object", name := "<init>", desc := "()V" } : Jvm.MethodName) object_method_1_code (1 : Nat) (Option.none : Option Jvm.ClassFile.FieldType), Jvm.Cond.code ({ cls := "com/example/hangslot/hangslot/LockStore$Acquisition", name := "fencingToken", desc := "()J" } : Jvm.MethodName) prog_8_method_8_code (1 : Nat) (Option.some Jvm.ClassFile.FieldType.long), Jvm.Cond.code ({ cls := "com/example/hangslot/hangslot/LockStore$Acquisition", name := "millisUntilFree", desc := "()J" } : Jvm.MethodName) prog_8_method_9_code (1 : Nat) (Option.some Jvm.ClassFile.FieldType.long), Jvm.Cond.code ({ cls := "com/example/hangslot/hangslot/LockStore$Acquisition", name := "taken", desc := "()Z" } : Jvm.MethodName) prog_8_method_4_code (1 : Nat) (Option.some Jvm.ClassFile.FieldType.boolean)]
set_option maxRecDepth 65536 in
theorem codes_eq : words1.filter isCode = codes1 := rfl
theorem w_codes : ∀ c ∈ words1.filter isCode, c.before args0 about1 = true := by
  rw [codes_eq]
  intro c hc
  simp only [codes1, List.mem_cons, List.not_mem_nil, or_false] at hc
  rcases hc with rfl | rfl | rfl | rfl | rfl | rfl | rfl | rfl
  · exact w_c0
  · exact w_c1
  · exact w_c2
  · exact w_c3
  · exact w_c4
  · exact w_c5
  · exact w_c6
  · exact w_c7
set_option maxRecDepth 65536 in
theorem w_t1 : (words1.take 24).all (fun c => isCode c || c.before args0 about1) = true := by decide +kernel
set_option maxRecDepth 65536 in
theorem w_t2 : (words1.drop 24).all (fun c => isCode c || c.before args0 about1) = true := by decide +kernel
theorem w_tables : (allAtoms (Jvm.Cond.code x code maxLocals ret :: tables_1)).before args0 about1 = true := by
  rw [allAtoms_all]
  show words1.all (fun c => c.before args0 about1) = true
  refine all_split ?_ w_codes
  rw [← List.take_append_drop 24 words1, List.all_append, w_t1, w_t2]
  rfl
set_option maxRecDepth 65536 in
theorem w_case : (Jvm.Cond.and given_1 narrow_1).before args0 about1 = true := by decide +kernel
theorem w_applies : (headSpec (Jvm.Cond.code x code maxLocals ret :: tables_1) room_1).applies x e0.platform about1 = true :=
  (Spec.applies_iff w_frames).mpr ⟨w_running, w_runnable, w_alone, w_named, w_hears, w_ripe, w_room, w_tables⟩
theorem atStart : AtStart classFile x code maxLocals ret World_1 tables_1 room_1 Calls_1 rest_1 Pre_1 launch0 p0 e0 about1 theMethod args0 below0 :=
  ⟨lists_1, trivial, launch0.admits_env _ _ _, launch0.least_env, fairChoices_fair.cas, fairChoices_fair.clock, w_frames, w_args, w_heap, w_applies, trivial, trivial, w_case⟩
end start1
theorem witness_1 : WitnessClaimed_1 := ⟨start1.p0, start1.e0, start1.about1, start1.theMethod, start1.args0, start1.below0, start1.atStart⟩
end Jvm.Pilot.@@N@@
