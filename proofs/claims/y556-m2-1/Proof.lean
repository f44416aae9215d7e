import JvmDerived
import JvmDerived.Pilot.@@N@@Statement
import JvmDerived.Pilot.@@N@@Code
set_option linter.unusedVariables false
set_option linter.unusedSimpArgs false
namespace Jvm.RoadKit
open Sem ClassFile Op Lib Jvm.Stand Jvm.Free Jvm.LawKit
section New
variable {p : Program} {l : Launch} {e : Env} {R : Room} {s : State} {m : MethodId} {args : Array Value} {below : List Frame} {meth : Method} {c : Code} {T : State} {locs : List Loc} {cells slots : Nat}
theorem retI (X : Stand p l e R s m args below meth c T locs cells slots) (hx : p.tables.exec = Jvm.exec) {pc : Nat} {Ls : Array Slot} {z : Int32} {rest : List Value} (hret : meth.sig.returnType = some .int) (hd : decode c.code pc = .ok (.ireturn, 1)) {fs : List Frame}
    (hl : ∀ (f : JFrame) (acts : List Action), f.method = m → f.locked = none → f.entered = [] → (doReturn e (T.setTop f) acts (some (.int z))).1 = T.setFrames fs) : Steps p.tables e below (T.setTop (mkF m pc Ls (.int z :: rest))) (T.setFrames fs) :=
  retOut X hx hret rfl (Or.inl ⟨rfl, Or.inl rfl, _, rfl⟩) hd hl
end New
end Jvm.RoadKit
namespace Jvm.Pilot.@@N@@
open Jvm Jvm.ClassFile Sem Op Lib Jvm.Free Jvm.Stand Jvm.LawKit Jvm.RoadKit Bundle Jvm.Pilot.@@N@@.Jvm.D
abbrev own_m0 : MethodName := ⟨"com/example/measurewright/measurewright/Relation", "takesQuantity", "()Z"⟩
abbrev own_m1 : MethodName := ⟨"com/example/measurewright/measurewright/RelationTakesQuantityPinLaw", "pick", "(I)Lcom/example/measurewright/measurewright/Relation;"⟩
/-- what a body that writes nothing leaves: its value, no place written, the heap as it was -/
def PQ (w : Option Value) (h0 : Heap) (n0 : Nat) (v : Option Value) (h : Heap) (L : List Loc) : Prop := v = w ∧ Fr n0 L ∧ h = h0
def LQ (n0 : Nat) (v : Option Value) (h : Heap) (L : List Loc) : Prop := v = some (.int (1 : Int32)) ∧ Fr n0 L ∧ True
theorem own_pd0 : parseMethodDescriptor "(I)Lcom/example/measurewright/measurewright/Relation;" = some ⟨[.int], some (.object "com/example/measurewright/measurewright/Relation")⟩ := by decide +kernel
theorem own_pd1 : parseMethodDescriptor "()Z" = some ⟨[], some .boolean⟩ := by decide +kernel
theorem own_k (p : Int32) : ∃ n, n < 15 ∧ ((p &&& (2147483647 : Int32)) % (15 : Int32)) = Int32.ofNat n := by
  have q0 := c_and p 2147483647 (by decide)
  have q := (c_irem (p &&& (2147483647 : Int32)) (15 : Int32) 15 rfl).1 q0.1
  refine ⟨((p &&& (2147483647 : Int32)).toInt % 15).toNat, by omega, ?_⟩
  rw [← Int32.toInt_inj, q, Int32.toInt_ofNat_small (by omega)]
  omega
theorem own_eqv {s : State} {args : Array Value} {t u : Term} {w : Value} (hu : u.eval args s none [] s = some w) (h : (Cond.eq t u).value args s none s [] = some true) (hk : (match w with | .retAddr _ => false | .float _ => false | .double _ => false | _ => true) = true := by rfl) : t.eval args s none [] s = some w := by
  obtain ⟨x, y, e1, e2, -, -⟩ := cmp_v (Or.inl h)
  cases hu.symm.trans e2
  rw [e1]
  simp only [Cond.value, e1, hu] at h
  cases x <;> cases w <;> simp at h hk ⊢ <;> exact h
theorem own_fld {s : State} {args : Array Value} {t : Term} {C n d : String} {a : Addr} {v : Value} (ht : t.eval args s none [] s = some (.ref a)) (h : (Term.field t C n d).eval args s none [] s = some v) : Fld s s.heap a C n d v := Fld.start ((fld_at ht).symm.trans h)
theorem own_len {s : State} {args : Array Value} {t : Term} {ty : FieldType} {a : Addr} {n : Int32} (ht : t.eval args s none [] s = some (.ref a)) (ha : (Cond.arrayOf t ty).value args s none s [] = some true) (hl : (Cond.eq (.length t) (.int n)).value args s none s [] = some true) (hn : ¬ n < 0) :
    ∃ c : Cell, Arr s s.heap a c ty ∧ c.slots.size < 2 ^ 31 ∧ c.slots.size.toInt32 = n := by
  obtain ⟨c, A⟩ := Arr.start ht ha
  have e := own_eqv (Term.int_eval n) hl
  have A2 := A.fin (Vm.Alike.refl _)
  obtain ⟨x, c2, e1, e2, e3⟩ := Term.length_spec e
  cases ht.symm.trans e1
  cases A2.symm.trans e2
  have h31 := SBG.length_lt ht A2 e
  refine ⟨c, A, h31, ?_⟩
  have := len_f ht A2 h31
  rw [e] at this
  simpa using (Option.some.inj this).symm
theorem own_elem {s : State} {args : Array Value} {t : Term} {ty : FieldType} {a : Addr} {c : Cell} {j : Int32} {v : Value} (ht : t.eval args s none [] s = some (.ref a)) (A : Arr s s.heap a c ty) (h : (Term.elem t (.int j)).eval args s none [] s = some v) : c.slots[j.toNatClampNeg]? = some v := (elem_in h ht (Term.int_eval j) A.1).2
theorem own_all0 {s : State} {args : Array Value} {t : Term} {ty : FieldType} {a : Addr} {c : Cell} {k n : Int32} (ht : ∀ idx, t.eval args s none idx s = some (.ref a)) (A : Arr s s.heap a c ty) (h31 : c.slots.size < 2 ^ 31) (hn : c.slots.size.toInt32 = n)
    (h : (Cond.all t (.or (.lt (.index 0) (.int k)) (.eq (.elem t (.index 0)) (.int 0)))).value args s none s [] = some true) (j : Nat) (hj : j < n.toNatClampNeg) (hk : ¬ j.toInt32 < k) : c.slots[j]? = some (.int 0) := by
  have A2 := A.fin (Vm.Alike.refl _)
  have hsz : n.toNatClampNeg = c.slots.size := by rw [← hn]; simp only [Int32.toNatClampNeg, len_toInt h31]; rfl
  have hj2 : j < c.slots.size := hsz ▸ hj
  have q := Cond.all_elim (ht []) A2 h j hj2
  have e1 : (Term.index 0).eval args s none [j] s = some (.int j.toInt32) := rfl
  have l1 : (Cond.lt (.index 0) (.int k)).value args s none s [j] = some false := by
    simp [Cond.value, e1, Term.int_eval, hk]
  have q2 : (Cond.eq (.elem t (.index 0)) (.int 0)).value args s none s [j] = some true := by
    have q3 : (match (Cond.lt (.index 0) (.int k)).value args s none s [j] with | some false => (Cond.eq (.elem t (.index 0)) (.int 0)).value args s none s [j] | x => x) = some true := q
    rw [l1] at q3
    exact q3
  obtain ⟨x, y, e2, e3, -, -⟩ := cmp_v (Or.inl q2)
  cases (Term.int_eval (args := args) (first := s) (o := none) (idx := [j]) (s := s) 0).symm.trans e3
  have e4 : (Term.elem t (.index 0)).eval args s none [j] s = some (.int 0) := by
    simp only [Cond.value, e2, e3] at q2
    rw [e2]; cases x <;> simp at q2 ⊢; exact q2
  have e5 := elem_in e4 (ht [j]) e1 A.1
  have e6 : (Nat.toInt32 j).toNatClampNeg = j := by simp only [Int32.toNatClampNeg, len_toInt (Nat.lt_trans hj2 h31)]; rfl
  rw [e6] at e5
  exact e5.2
theorem own_csne {s : State} {args : Array Value} {t : Term} {v : Int32} (e : t.eval args s none [] s = some (.int v)) (h : (Cond.not (.eq t (.int 0))).value args s none s [] = some true) : ¬ (v = (0 : Int32)) := by
  have q := not_v h
  intro hv
  subst hv
  have q2 := Cond.eq_ints e (Term.int_eval (args := args) (first := s) (o := none) (idx := []) (s := s) 0)
  rw [q2] at q
  simp at q
theorem own_orref {s : State} {args : Array Value} {C f d : String} (h : (Cond.isRef (.static C f d)).value args s none s [] = some true) (hi : (Cond.initializedFor C f d).before args s = true ∨ ((Cond.initialized C).before args s = true ∧ (Cond.laysStatic C f d).before args s = true)) : (Sta s s.heap C f d .null) ∨ (∃ a, Sta s s.heap C f d (.ref a)) := by
  obtain ⟨x, e, hr⟩ := isR_v h
  rcases ref_cases hr with rfl | ⟨a, rfl⟩
  · exact Or.inl (Sta.start e hi)
  · exact Or.inr ⟨a, Sta.start e hi⟩
def own_St (Z : State) (A : Nat → Addr) (K : Nat → ClassId) : Prop := ((Sta Z Z.heap "com/example/measurewright/measurewright/Relation" "SBS" "Lcom/example/measurewright/measurewright/Relation;" (.ref (A 0))) ∧ (Exa Z Z.heap (A 0) "com/example/measurewright/measurewright/Relation") ∧ (Sta Z Z.heap "com/example/measurewright/measurewright/Relation" "SAS" "Lcom/example/measurewright/measurewright/Relation;" (.ref (A 1))) ∧ (Exa Z Z.heap (A 1) "com/example/measurewright/measurewright/Relation") ∧ (Sta Z Z.heap "com/example/measurewright/measurewright/Relation" "SBE" "Lcom/example/measurewright/measurewright/Relation;" (.ref (A 2))) ∧ (Exa Z Z.heap (A 2) "com/example/measurewright/measurewright/Relation") ∧ (Sta Z Z.heap "com/example/measurewright/measurewright/Relation" "SAE" "Lcom/example/measurewright/measurewright/Relation;" (.ref (A 3))) ∧ (Exa Z Z.heap (A 3) "com/example/measurewright/measurewright/Relation") ∧ True) ∧ ((Sta Z Z.heap "com/example/measurewright/measurewright/Relation" "EBS" "Lcom/example/measurewright/measurewright/Relation;" (.ref (A 4))) ∧ (Exa Z Z.heap (A 4) "com/example/measurewright/measurewright/Relation") ∧ (Sta Z Z.heap "com/example/measurewright/measurewright/Relation" "EAS" "Lcom/example/measurewright/measurewright/Relation;" (.ref (A 5))) ∧ (Exa Z Z.heap (A 5) "com/example/measurewright/measurewright/Relation") ∧ (Sta Z Z.heap "com/example/measurewright/measurewright/Relation" "EBE" "Lcom/example/measurewright/measurewright/Relation;" (.ref (A 6))) ∧ (Exa Z Z.heap (A 6) "com/example/measurewright/measurewright/Relation") ∧ (Sta Z Z.heap "com/example/measurewright/measurewright/Relation" "EAE" "Lcom/example/measurewright/measurewright/Relation;" (.ref (A 7))) ∧ (Exa Z Z.heap (A 7) "com/example/measurewright/measurewright/Relation") ∧ True) ∧ ((Sta Z Z.heap "com/example/measurewright/measurewright/Relation" "SDU" "Lcom/example/measurewright/measurewright/Relation;" (.ref (A 8))) ∧ (Exa Z Z.heap (A 8) "com/example/measurewright/measurewright/Relation") ∧ (Sta Z Z.heap "com/example/measurewright/measurewright/Relation" "EDU" "Lcom/example/measurewright/measurewright/Relation;" (.ref (A 9))) ∧ (Exa Z Z.heap (A 9) "com/example/measurewright/measurewright/Relation") ∧ (Sta Z Z.heap "com/example/measurewright/measurewright/Relation" "DURING" "Lcom/example/measurewright/measurewright/Relation;" (.ref (A 10))) ∧ (Exa Z Z.heap (A 10) "com/example/measurewright/measurewright/Relation") ∧ (Sta Z Z.heap "com/example/measurewright/measurewright/Relation" "OVERLAP" "Lcom/example/measurewright/measurewright/Relation;" (.ref (A 11))) ∧ (Exa Z Z.heap (A 11) "com/example/measurewright/measurewright/Relation") ∧ True) ∧ ((Sta Z Z.heap "com/example/measurewright/measurewright/Relation" "SCW" "Lcom/example/measurewright/measurewright/Relation;" (.ref (A 12))) ∧ (Exa Z Z.heap (A 12) "com/example/measurewright/measurewright/Relation") ∧ (Sta Z Z.heap "com/example/measurewright/measurewright/Relation" "ECW" "Lcom/example/measurewright/measurewright/Relation;" (.ref (A 13))) ∧ (Exa Z Z.heap (A 13) "com/example/measurewright/measurewright/Relation") ∧ (Sta Z Z.heap "com/example/measurewright/measurewright/Relation" "CONCURRENT" "Lcom/example/measurewright/measurewright/Relation;" (.ref (A 14))) ∧ (Exa Z Z.heap (A 14) "com/example/measurewright/measurewright/Relation") ∧ (Fld Z Z.heap (A 0) "com/example/measurewright/measurewright/Relation" "measured" "Lcom/example/measurewright/measurewright/Relation$Condition;" (.ref (A 15))) ∧ (Exa Z Z.heap (A 15) "com/example/measurewright/measurewright/Relation$Condition") ∧ True) ∧ ((Fld Z Z.heap (A 3) "com/example/measurewright/measurewright/Relation" "measured" "Lcom/example/measurewright/measurewright/Relation$Condition;" (.ref (A 16))) ∧ (Exa Z Z.heap (A 16) "com/example/measurewright/measurewright/Relation$Condition") ∧ (Fld Z Z.heap (A 5) "com/example/measurewright/measurewright/Relation" "measured" "Lcom/example/measurewright/measurewright/Relation$Condition;" (.ref (A 17))) ∧ (Exa Z Z.heap (A 17) "com/example/measurewright/measurewright/Relation$Condition") ∧ (Fld Z Z.heap (A 13) "com/example/measurewright/measurewright/Relation" "measured" "Lcom/example/measurewright/measurewright/Relation$Condition;" (.ref (A 18))) ∧ (Exa Z Z.heap (A 18) "com/example/measurewright/measurewright/Relation$Condition") ∧ (Fld Z Z.heap (A 6) "com/example/measurewright/measurewright/Relation" "measured" "Lcom/example/measurewright/measurewright/Relation$Condition;" (.ref (A 19))) ∧ (Exa Z Z.heap (A 19) "com/example/measurewright/measurewright/Relation$Condition") ∧ True) ∧ ((Fld Z Z.heap (A 7) "com/example/measurewright/measurewright/Relation" "measured" "Lcom/example/measurewright/measurewright/Relation$Condition;" (.ref (A 20))) ∧ (Exa Z Z.heap (A 20) "com/example/measurewright/measurewright/Relation$Condition") ∧ (Fld Z Z.heap (A 2) "com/example/measurewright/measurewright/Relation" "measured" "Lcom/example/measurewright/measurewright/Relation$Condition;" (.ref (A 21))) ∧ (Exa Z Z.heap (A 21) "com/example/measurewright/measurewright/Relation$Condition") ∧ (Fld Z Z.heap (A 10) "com/example/measurewright/measurewright/Relation" "measured" "Lcom/example/measurewright/measurewright/Relation$Condition;" (.ref (A 22))) ∧ (Exa Z Z.heap (A 22) "com/example/measurewright/measurewright/Relation$Condition") ∧ (Fld Z Z.heap (A 8) "com/example/measurewright/measurewright/Relation" "measured" "Lcom/example/measurewright/measurewright/Relation$Condition;" (.ref (A 23))) ∧ (Exa Z Z.heap (A 23) "com/example/measurewright/measurewright/Relation$Condition") ∧ True) ∧ ((Fld Z Z.heap (A 1) "com/example/measurewright/measurewright/Relation" "measured" "Lcom/example/measurewright/measurewright/Relation$Condition;" (.ref (A 24))) ∧ (Exa Z Z.heap (A 24) "com/example/measurewright/measurewright/Relation$Condition") ∧ (Fld Z Z.heap (A 12) "com/example/measurewright/measurewright/Relation" "measured" "Lcom/example/measurewright/measurewright/Relation$Condition;" (.ref (A 25))) ∧ (Exa Z Z.heap (A 25) "com/example/measurewright/measurewright/Relation$Condition") ∧ (Fld Z Z.heap (A 4) "com/example/measurewright/measurewright/Relation" "measured" "Lcom/example/measurewright/measurewright/Relation$Condition;" (.ref (A 26))) ∧ (Exa Z Z.heap (A 26) "com/example/measurewright/measurewright/Relation$Condition") ∧ (Fld Z Z.heap (A 9) "com/example/measurewright/measurewright/Relation" "measured" "Lcom/example/measurewright/measurewright/Relation$Condition;" (.ref (A 27))) ∧ (Exa Z Z.heap (A 27) "com/example/measurewright/measurewright/Relation$Condition") ∧ True) ∧ ((Fld Z Z.heap (A 0) "java/lang/Enum" "ordinal" "I" (.int (0 : Int32))) ∧ (Fld Z Z.heap (A 11) "java/lang/Enum" "ordinal" "I" (.int (11 : Int32))) ∧ (Fld Z Z.heap (A 14) "java/lang/Enum" "ordinal" "I" (.int (14 : Int32))) ∧ (Fld Z Z.heap (A 3) "java/lang/Enum" "ordinal" "I" (.int (3 : Int32))) ∧ (Fld Z Z.heap (A 5) "java/lang/Enum" "ordinal" "I" (.int (5 : Int32))) ∧ (Fld Z Z.heap (A 13) "java/lang/Enum" "ordinal" "I" (.int (13 : Int32))) ∧ (Fld Z Z.heap (A 6) "java/lang/Enum" "ordinal" "I" (.int (6 : Int32))) ∧ (Fld Z Z.heap (A 14) "com/example/measurewright/measurewright/Relation" "measured" "Lcom/example/measurewright/measurewright/Relation$Condition;" .null) ∧ True) ∧ ((Fld Z Z.heap (A 7) "java/lang/Enum" "ordinal" "I" (.int (7 : Int32))) ∧ (Fld Z Z.heap (A 2) "java/lang/Enum" "ordinal" "I" (.int (2 : Int32))) ∧ (Fld Z Z.heap (A 11) "com/example/measurewright/measurewright/Relation" "measured" "Lcom/example/measurewright/measurewright/Relation$Condition;" .null) ∧ (Fld Z Z.heap (A 10) "java/lang/Enum" "ordinal" "I" (.int (10 : Int32))) ∧ (Fld Z Z.heap (A 8) "java/lang/Enum" "ordinal" "I" (.int (8 : Int32))) ∧ (Fld Z Z.heap (A 1) "java/lang/Enum" "ordinal" "I" (.int (1 : Int32))) ∧ (Fld Z Z.heap (A 12) "java/lang/Enum" "ordinal" "I" (.int (12 : Int32))) ∧ (Fld Z Z.heap (A 4) "java/lang/Enum" "ordinal" "I" (.int (4 : Int32))) ∧ True) ∧ ((Fld Z Z.heap (A 9) "java/lang/Enum" "ordinal" "I" (.int (9 : Int32))) ∧ True) ∧ True
theorem own_d_method_2_code_0 : decode method_2_code 0 = .ok (.iload_n 0, 1) := by decide +kernel
theorem own_d_method_2_code_1 : decode method_2_code 1 = .ok (.ifCond .ne 7, 3) := by decide +kernel
theorem own_d_method_2_code_4 : decode method_2_code 4 = .ok (.getstatic 7, 3) := by decide +kernel
theorem own_d_method_2_code_7 : decode method_2_code 7 = .ok (.areturn, 1) := by decide +kernel
theorem own_pn0 : plainName "com/example/measurewright/measurewright/RelationTakesQuantityPinLaw" = true := by first | (simp [plainName, overriddenIn]; done) | decide +kernel
theorem own_ef_rm1 (m : MethodId) (p1 : Int32) (A : Nat → Addr) (K : Nat → ClassId)  : entryFrame m #[(.int (0 : Int32))] 1 = mkF m 0 #[.val (.int (0 : Int32))] [] := by first | (simp [entryFrame, mkF, argsToLocals, Value.category, maxLocals]; done) | rfl
set_option maxRecDepth 65536 in
set_option maxHeartbeats 40000000 in
theorem rm1 (l : Launch) (Z : State) (a0 : Array Value) (hw : ∀ d ∈ tables_1, d.before a0 Z = true) (ws : List Jvm.Cond) (h0 : Heap) (n0 : Nat) (p1 : Int32) (A : Nat → Addr) (K : Nat → ClassId)  (EN : own_St Z A K) (OL0 : Old Z n0 h0) :
    MetFree l own_m1 (head1 (Jvm.Cond.code own_m1 method_2_code 1 (some (.object "com/example/measurewright/measurewright/Relation")) :: ws) ({ frames := 0, cells := 0, slots := 0, locals := 0 } : Room)) (fun a U => a = #[(.int (0 : Int32))] ∧ Z.Warmed39 U.vm ∧ U.heap = h0) (fun _ _ _ _ _ => True) (fun _ U o U' => ∃ v L, o = .returned v ∧ (PQ (some (.ref (A 0))) h0 n0) v U'.heap L ∧ FrameEnd U o U' L ({ frames := 0, cells := 0, slots := 0, locals := 0 } : Room).cells ({ frames := 0, cells := 0, slots := 0, locals := 0 } : Room).slots) := by
  refine MetFree.of_bodySF (plainFor_of_name own_pn0) hisR ?_
  intro p e s m args below meth c s₁ Bd hml0 hP hK
  obtain ⟨rfl, hZ, hh⟩ := hP
  have hx := Bd.exec
  have hby := Bd.bytes
  have hml : c.maxLocals = 1 := hml0
  have hown : s.vm.findClass "com/example/measurewright/measurewright/RelationTakesQuantityPinLaw" = some m.cls := findClass_of_methodNamed Bd.named
  have hnm := (name_of_methodNamed Bd.named Bd.method).1
  have X0 : Stand p l e ({ frames := 0, cells := 0, slots := 0, locals := 0 } : Room) s m #[(.int (0 : Int32))] below meth c s₁ [] 0 0 := Stand.of_body Bd
  have e0 : s₁.heap = h0 := by rw [← hh, Bd.state]; rfl
  have N0 := Fr.nil n0
  have pre0 : ∀ t, Steps p.tables e below (s₁.setTop (mkF m 0 #[.val (.int (0 : Int32))] [])) t → Steps p.tables e below (s₁.setTop (entryFrame m #[(.int (0 : Int32))] 1)) t := fun t k => castTop (own_ef_rm1 m p1 A K ) k
  have KK0 : Keep h0 h0 [] := Keep.refl _ _
  obtain ⟨T3, X3, e3, st3⟩ := getS2 X0 hx hZ hown (host := "") (Or.inl (hw _ (List.mem_of_getElem? (i := 5) rfl))) Via.refl e0 (EN.1.1.ext OL0.2) (g := (mkF m 4 #[.val (.int (0 : Int32))] [])) rfl (hb hby own_d_method_2_code_4)
  obtain ⟨fs, hr, hrun, hended, hW, hsame⟩ := X3.leave (v := some (.ref (A 0))) (fun h => by rw [Bd.returns] at h; cases h)
  refine ⟨_, _, pre0 _ ?_, hrun, hended, _, _, rfl, ?_, ⟨_, rfl⟩, hW, hsame.mono (by decide) (by decide)⟩
  · show Steps p.tables e below (s₁.setTop (mkF m 0 #[.val (.int (0 : Int32))] [])) _
    refine XS.iloadN X0.here hx rfl (hb hby own_d_method_2_code_0) rfl ?_
    show Steps p.tables e below (s₁.setTop (mkF m 1 #[.val (.int (0 : Int32))] [(.int (0 : Int32))])) _
    refine XS.ifNo X0.here hx rfl (hb hby own_d_method_2_code_1) rfl ((if0 _ _).trans (teq (by decide : (0 : Int32) = (0 : Int32))).2) ?_
    show Steps p.tables e below (s₁.setTop (mkF m 4 #[.val (.int (0 : Int32))] [])) _
    refine st3 _ ?_
    show Steps p.tables e below (T3.setTop (mkF m 7 #[.val (.int (0 : Int32))] [(.ref (A 0))])) _
    exact retOut X3 hx Bd.returns rfl (Or.inr (Or.inr (Or.inr (Or.inr ⟨rfl, rfl, rfl⟩)))) (hb hby own_d_method_2_code_7) hr
  · show PQ (some (.ref (A 0))) h0 n0 _ T3.heap _
    rw [e3]
    exact ⟨rfl, N0, rfl⟩
theorem own_d_prog_24_method_6_code_0 : decode prog_24_method_6_code 0 = .ok (.aload_n 0, 1) := by decide +kernel
theorem own_d_prog_24_method_6_code_1 : decode prog_24_method_6_code 1 = .ok (.getfield 105, 3) := by decide +kernel
theorem own_d_prog_24_method_6_code_4 : decode prog_24_method_6_code 4 = .ok (.ifnull 7, 3) := by decide +kernel
theorem own_d_prog_24_method_6_code_7 : decode prog_24_method_6_code 7 = .ok (.iconst 1, 1) := by decide +kernel
theorem own_d_prog_24_method_6_code_8 : decode prog_24_method_6_code 8 = .ok (.goto 4, 3) := by decide +kernel
theorem own_d_prog_24_method_6_code_12 : decode prog_24_method_6_code 12 = .ok (.ireturn, 1) := by decide +kernel
theorem own_pn1 : plainName "com/example/measurewright/measurewright/Relation" = true := by first | (simp [plainName, overriddenIn]; done) | decide +kernel
theorem own_ef_rm2 (m : MethodId) (p1 : Int32) (A : Nat → Addr) (K : Nat → ClassId)  : entryFrame m #[(.ref (A 0))] 1 = mkF m 0 #[.val (.ref (A 0))] [] := by first | (simp [entryFrame, mkF, argsToLocals, Value.category, maxLocals]; done) | rfl
set_option maxRecDepth 65536 in
set_option maxHeartbeats 40000000 in
theorem rm2 (l : Launch) (Z : State) (a0 : Array Value) (hw : ∀ d ∈ tables_1, d.before a0 Z = true) (ws : List Jvm.Cond) (h0 : Heap) (n0 : Nat) (p1 : Int32) (A : Nat → Addr) (K : Nat → ClassId)  (EN : own_St Z A K) (OL0 : Old Z n0 h0) :
    MetFree l own_m0 (head1 (Jvm.Cond.code own_m0 prog_24_method_6_code 1 (some .boolean) :: ws) ({ frames := 0, cells := 0, slots := 0, locals := 0 } : Room)) (fun a U => a = #[(.ref (A 0))] ∧ Z.Warmed39 U.vm ∧ U.heap = h0) (fun _ _ _ _ _ => True) (fun _ U o U' => ∃ v L, o = .returned v ∧ (PQ (some (.int (1 : Int32))) h0 n0) v U'.heap L ∧ FrameEnd U o U' L ({ frames := 0, cells := 0, slots := 0, locals := 0 } : Room).cells ({ frames := 0, cells := 0, slots := 0, locals := 0 } : Room).slots) := by
  refine MetFree.of_bodySF (plainFor_of_name own_pn1) hisR ?_
  intro p e s m args below meth c s₁ Bd hml0 hP hK
  obtain ⟨rfl, hZ, hh⟩ := hP
  have hx := Bd.exec
  have hby := Bd.bytes
  have hml : c.maxLocals = 1 := hml0
  have hown : s.vm.findClass "com/example/measurewright/measurewright/Relation" = some m.cls := findClass_of_methodNamed Bd.named
  have hnm := (name_of_methodNamed Bd.named Bd.method).1
  have X0 : Stand p l e ({ frames := 0, cells := 0, slots := 0, locals := 0 } : Room) s m #[(.ref (A 0))] below meth c s₁ [] 0 0 := Stand.of_body Bd
  have e0 : s₁.heap = h0 := by rw [← hh, Bd.state]; rfl
  have N0 := Fr.nil n0
  have pre0 : ∀ t, Steps p.tables e below (s₁.setTop (mkF m 0 #[.val (.ref (A 0))] [])) t → Steps p.tables e below (s₁.setTop (entryFrame m #[(.ref (A 0))] 1)) t := fun t k => castTop (own_ef_rm2 m p1 A K ) k
  have KK0 : Keep h0 h0 [] := Keep.refl _ _
  obtain ⟨T7, X7, e7, st7⟩ := getF X0 hx hZ hown (host := "") (Or.inl (hw _ (List.mem_of_getElem? (i := 17) rfl))) Via.refl e0 (EN.2.2.2.1.2.2.2.2.2.2.1.ext OL0.2) (g := (mkF m 1 #[.val (.ref (A 0))] [(.ref (A 0))])) rfl rfl (hb hby own_d_prog_24_method_6_code_1)
  obtain ⟨fs, hr, hrun, hended, hW, hsame⟩ := X7.leave (v := some (.int (1 : Int32))) (fun h => by rw [Bd.returns] at h; cases h)
  refine ⟨_, _, pre0 _ ?_, hrun, hended, _, _, rfl, ?_, ⟨_, rfl⟩, hW, hsame.mono (by decide) (by decide)⟩
  · show Steps p.tables e below (s₁.setTop (mkF m 0 #[.val (.ref (A 0))] [])) _
    refine XS.aloadN X0.here hx rfl (hb hby own_d_prog_24_method_6_code_0) rfl rfl ?_
    show Steps p.tables e below (s₁.setTop (mkF m 1 #[.val (.ref (A 0))] [(.ref (A 0))])) _
    refine st7 _ ?_
    show Steps p.tables e below (T7.setTop (mkF m 4 #[.val (.ref (A 0))] [(.ref (A 15))])) _
    refine XS.ifnullNo X7.here hx rfl (hb hby own_d_prog_24_method_6_code_4) rfl ?_
    show Steps p.tables e below (T7.setTop (mkF m 7 #[.val (.ref (A 0))] [])) _
    refine XS.iconst X7.here hx rfl (hb hby own_d_prog_24_method_6_code_7) ?_
    show Steps p.tables e below (T7.setTop (mkF m 8 #[.val (.ref (A 0))] [(.int (1 : Int32))])) _
    refine XS.goto X7.here hx rfl (pc0 := 8) (pc' := 12) rfl (hb hby own_d_prog_24_method_6_code_8) (by decide) (by decide) ?_
    show Steps p.tables e below (T7.setTop (mkF m 12 #[.val (.ref (A 0))] [(.int (1 : Int32))])) _
    exact retN X7 hx (t := .boolean) Bd.returns (by simp) (hb hby own_d_prog_24_method_6_code_12) hr
  · show PQ (some (.int (1 : Int32))) h0 n0 _ T7.heap _
    rw [e7]
    exact ⟨rfl, N0, rfl⟩
theorem own_d_method_2_code_8 : decode method_2_code 8 = .ok (.iload_n 0, 1) := by decide +kernel
theorem own_d_method_2_code_9 : decode method_2_code 9 = .ok (.iconst 1, 1) := by decide +kernel
theorem own_d_method_2_code_10 : decode method_2_code 10 = .ok (.if_icmp .ne 7, 3) := by decide +kernel
theorem own_d_method_2_code_13 : decode method_2_code 13 = .ok (.getstatic 13, 3) := by decide +kernel
theorem own_d_method_2_code_16 : decode method_2_code 16 = .ok (.areturn, 1) := by decide +kernel
theorem own_ef_rm3 (m : MethodId) (p1 : Int32) (A : Nat → Addr) (K : Nat → ClassId)  : entryFrame m #[(.int (1 : Int32))] 1 = mkF m 0 #[.val (.int (1 : Int32))] [] := by first | (simp [entryFrame, mkF, argsToLocals, Value.category, maxLocals]; done) | rfl
set_option maxRecDepth 65536 in
set_option maxHeartbeats 40000000 in
theorem rm3 (l : Launch) (Z : State) (a0 : Array Value) (hw : ∀ d ∈ tables_1, d.before a0 Z = true) (ws : List Jvm.Cond) (h0 : Heap) (n0 : Nat) (p1 : Int32) (A : Nat → Addr) (K : Nat → ClassId)  (EN : own_St Z A K) (OL0 : Old Z n0 h0) :
    MetFree l own_m1 (head1 (Jvm.Cond.code own_m1 method_2_code 1 (some (.object "com/example/measurewright/measurewright/Relation")) :: ws) ({ frames := 0, cells := 0, slots := 0, locals := 0 } : Room)) (fun a U => a = #[(.int (1 : Int32))] ∧ Z.Warmed39 U.vm ∧ U.heap = h0) (fun _ _ _ _ _ => True) (fun _ U o U' => ∃ v L, o = .returned v ∧ (PQ (some (.ref (A 1))) h0 n0) v U'.heap L ∧ FrameEnd U o U' L ({ frames := 0, cells := 0, slots := 0, locals := 0 } : Room).cells ({ frames := 0, cells := 0, slots := 0, locals := 0 } : Room).slots) := by
  refine MetFree.of_bodySF (plainFor_of_name own_pn0) hisR ?_
  intro p e s m args below meth c s₁ Bd hml0 hP hK
  obtain ⟨rfl, hZ, hh⟩ := hP
  have hx := Bd.exec
  have hby := Bd.bytes
  have hml : c.maxLocals = 1 := hml0
  have hown : s.vm.findClass "com/example/measurewright/measurewright/RelationTakesQuantityPinLaw" = some m.cls := findClass_of_methodNamed Bd.named
  have hnm := (name_of_methodNamed Bd.named Bd.method).1
  have X0 : Stand p l e ({ frames := 0, cells := 0, slots := 0, locals := 0 } : Room) s m #[(.int (1 : Int32))] below meth c s₁ [] 0 0 := Stand.of_body Bd
  have e0 : s₁.heap = h0 := by rw [← hh, Bd.state]; rfl
  have N0 := Fr.nil n0
  have pre0 : ∀ t, Steps p.tables e below (s₁.setTop (mkF m 0 #[.val (.int (1 : Int32))] [])) t → Steps p.tables e below (s₁.setTop (entryFrame m #[(.int (1 : Int32))] 1)) t := fun t k => castTop (own_ef_rm3 m p1 A K ) k
  have KK0 : Keep h0 h0 [] := Keep.refl _ _
  obtain ⟨T9, X9, e9, st9⟩ := getS2 X0 hx hZ hown (host := "") (Or.inl (hw _ (List.mem_of_getElem? (i := 35) rfl))) Via.refl e0 (EN.1.2.2.1.ext OL0.2) (g := (mkF m 13 #[.val (.int (1 : Int32))] [])) rfl (hb hby own_d_method_2_code_13)
  obtain ⟨fs, hr, hrun, hended, hW, hsame⟩ := X9.leave (v := some (.ref (A 1))) (fun h => by rw [Bd.returns] at h; cases h)
  refine ⟨_, _, pre0 _ ?_, hrun, hended, _, _, rfl, ?_, ⟨_, rfl⟩, hW, hsame.mono (by decide) (by decide)⟩
  · show Steps p.tables e below (s₁.setTop (mkF m 0 #[.val (.int (1 : Int32))] [])) _
    refine XS.iloadN X0.here hx rfl (hb hby own_d_method_2_code_0) rfl ?_
    show Steps p.tables e below (s₁.setTop (mkF m 1 #[.val (.int (1 : Int32))] [(.int (1 : Int32))])) _
    refine XS.ifYes X0.here hx rfl (pc0 := 1) (pc' := 8) rfl (hb hby own_d_method_2_code_1) rfl ((if0 _ _).trans (feq (by decide : ¬ ((1 : Int32) = (0 : Int32)))).2) (by decide) (by decide) ?_
    show Steps p.tables e below (s₁.setTop (mkF m 8 #[.val (.int (1 : Int32))] [])) _
    refine XS.iloadN X0.here hx rfl (hb hby own_d_method_2_code_8) rfl ?_
    show Steps p.tables e below (s₁.setTop (mkF m 9 #[.val (.int (1 : Int32))] [(.int (1 : Int32))])) _
    refine XS.iconst X0.here hx rfl (hb hby own_d_method_2_code_9) ?_
    show Steps p.tables e below (s₁.setTop (mkF m 10 #[.val (.int (1 : Int32))] [(.int (1 : Int32)), (.int (1 : Int32))])) _
    refine XS.icmpNo X0.here hx rfl (hb hby own_d_method_2_code_10) rfl (teq (by decide : (1 : Int32) = (1 : Int32))).2 ?_
    show Steps p.tables e below (s₁.setTop (mkF m 13 #[.val (.int (1 : Int32))] [])) _
    refine st9 _ ?_
    show Steps p.tables e below (T9.setTop (mkF m 16 #[.val (.int (1 : Int32))] [(.ref (A 1))])) _
    exact retOut X9 hx Bd.returns rfl (Or.inr (Or.inr (Or.inr (Or.inr ⟨rfl, rfl, rfl⟩)))) (hb hby own_d_method_2_code_16) hr
  · show PQ (some (.ref (A 1))) h0 n0 _ T9.heap _
    rw [e9]
    exact ⟨rfl, N0, rfl⟩
theorem own_ef_rm4 (m : MethodId) (p1 : Int32) (A : Nat → Addr) (K : Nat → ClassId)  : entryFrame m #[(.ref (A 1))] 1 = mkF m 0 #[.val (.ref (A 1))] [] := by first | (simp [entryFrame, mkF, argsToLocals, Value.category, maxLocals]; done) | rfl
set_option maxRecDepth 65536 in
set_option maxHeartbeats 40000000 in
theorem rm4 (l : Launch) (Z : State) (a0 : Array Value) (hw : ∀ d ∈ tables_1, d.before a0 Z = true) (ws : List Jvm.Cond) (h0 : Heap) (n0 : Nat) (p1 : Int32) (A : Nat → Addr) (K : Nat → ClassId)  (EN : own_St Z A K) (OL0 : Old Z n0 h0) :
    MetFree l own_m0 (head1 (Jvm.Cond.code own_m0 prog_24_method_6_code 1 (some .boolean) :: ws) ({ frames := 0, cells := 0, slots := 0, locals := 0 } : Room)) (fun a U => a = #[(.ref (A 1))] ∧ Z.Warmed39 U.vm ∧ U.heap = h0) (fun _ _ _ _ _ => True) (fun _ U o U' => ∃ v L, o = .returned v ∧ (PQ (some (.int (1 : Int32))) h0 n0) v U'.heap L ∧ FrameEnd U o U' L ({ frames := 0, cells := 0, slots := 0, locals := 0 } : Room).cells ({ frames := 0, cells := 0, slots := 0, locals := 0 } : Room).slots) := by
  refine MetFree.of_bodySF (plainFor_of_name own_pn1) hisR ?_
  intro p e s m args below meth c s₁ Bd hml0 hP hK
  obtain ⟨rfl, hZ, hh⟩ := hP
  have hx := Bd.exec
  have hby := Bd.bytes
  have hml : c.maxLocals = 1 := hml0
  have hown : s.vm.findClass "com/example/measurewright/measurewright/Relation" = some m.cls := findClass_of_methodNamed Bd.named
  have hnm := (name_of_methodNamed Bd.named Bd.method).1
  have X0 : Stand p l e ({ frames := 0, cells := 0, slots := 0, locals := 0 } : Room) s m #[(.ref (A 1))] below meth c s₁ [] 0 0 := Stand.of_body Bd
  have e0 : s₁.heap = h0 := by rw [← hh, Bd.state]; rfl
  have N0 := Fr.nil n0
  have pre0 : ∀ t, Steps p.tables e below (s₁.setTop (mkF m 0 #[.val (.ref (A 1))] [])) t → Steps p.tables e below (s₁.setTop (entryFrame m #[(.ref (A 1))] 1)) t := fun t k => castTop (own_ef_rm4 m p1 A K ) k
  have KK0 : Keep h0 h0 [] := Keep.refl _ _
  obtain ⟨T13, X13, e13, st13⟩ := getF X0 hx hZ hown (host := "") (Or.inl (hw _ (List.mem_of_getElem? (i := 17) rfl))) Via.refl e0 (EN.2.2.2.2.2.2.1.1.ext OL0.2) (g := (mkF m 1 #[.val (.ref (A 1))] [(.ref (A 1))])) rfl rfl (hb hby own_d_prog_24_method_6_code_1)
  obtain ⟨fs, hr, hrun, hended, hW, hsame⟩ := X13.leave (v := some (.int (1 : Int32))) (fun h => by rw [Bd.returns] at h; cases h)
  refine ⟨_, _, pre0 _ ?_, hrun, hended, _, _, rfl, ?_, ⟨_, rfl⟩, hW, hsame.mono (by decide) (by decide)⟩
  · show Steps p.tables e below (s₁.setTop (mkF m 0 #[.val (.ref (A 1))] [])) _
    refine XS.aloadN X0.here hx rfl (hb hby own_d_prog_24_method_6_code_0) rfl rfl ?_
    show Steps p.tables e below (s₁.setTop (mkF m 1 #[.val (.ref (A 1))] [(.ref (A 1))])) _
    refine st13 _ ?_
    show Steps p.tables e below (T13.setTop (mkF m 4 #[.val (.ref (A 1))] [(.ref (A 24))])) _
    refine XS.ifnullNo X13.here hx rfl (hb hby own_d_prog_24_method_6_code_4) rfl ?_
    show Steps p.tables e below (T13.setTop (mkF m 7 #[.val (.ref (A 1))] [])) _
    refine XS.iconst X13.here hx rfl (hb hby own_d_prog_24_method_6_code_7) ?_
    show Steps p.tables e below (T13.setTop (mkF m 8 #[.val (.ref (A 1))] [(.int (1 : Int32))])) _
    refine XS.goto X13.here hx rfl (pc0 := 8) (pc' := 12) rfl (hb hby own_d_prog_24_method_6_code_8) (by decide) (by decide) ?_
    show Steps p.tables e below (T13.setTop (mkF m 12 #[.val (.ref (A 1))] [(.int (1 : Int32))])) _
    exact retN X13 hx (t := .boolean) Bd.returns (by simp) (hb hby own_d_prog_24_method_6_code_12) hr
  · show PQ (some (.int (1 : Int32))) h0 n0 _ T13.heap _
    rw [e13]
    exact ⟨rfl, N0, rfl⟩
theorem own_d_method_2_code_17 : decode method_2_code 17 = .ok (.iload_n 0, 1) := by decide +kernel
theorem own_d_method_2_code_18 : decode method_2_code 18 = .ok (.iconst 2, 1) := by decide +kernel
theorem own_d_method_2_code_19 : decode method_2_code 19 = .ok (.if_icmp .ne 7, 3) := by decide +kernel
theorem own_d_method_2_code_22 : decode method_2_code 22 = .ok (.getstatic 16, 3) := by decide +kernel
theorem own_d_method_2_code_25 : decode method_2_code 25 = .ok (.areturn, 1) := by decide +kernel
theorem own_ef_rm5 (m : MethodId) (p1 : Int32) (A : Nat → Addr) (K : Nat → ClassId)  : entryFrame m #[(.int (2 : Int32))] 1 = mkF m 0 #[.val (.int (2 : Int32))] [] := by first | (simp [entryFrame, mkF, argsToLocals, Value.category, maxLocals]; done) | rfl
set_option maxRecDepth 65536 in
set_option maxHeartbeats 40000000 in
theorem rm5 (l : Launch) (Z : State) (a0 : Array Value) (hw : ∀ d ∈ tables_1, d.before a0 Z = true) (ws : List Jvm.Cond) (h0 : Heap) (n0 : Nat) (p1 : Int32) (A : Nat → Addr) (K : Nat → ClassId)  (EN : own_St Z A K) (OL0 : Old Z n0 h0) :
    MetFree l own_m1 (head1 (Jvm.Cond.code own_m1 method_2_code 1 (some (.object "com/example/measurewright/measurewright/Relation")) :: ws) ({ frames := 0, cells := 0, slots := 0, locals := 0 } : Room)) (fun a U => a = #[(.int (2 : Int32))] ∧ Z.Warmed39 U.vm ∧ U.heap = h0) (fun _ _ _ _ _ => True) (fun _ U o U' => ∃ v L, o = .returned v ∧ (PQ (some (.ref (A 2))) h0 n0) v U'.heap L ∧ FrameEnd U o U' L ({ frames := 0, cells := 0, slots := 0, locals := 0 } : Room).cells ({ frames := 0, cells := 0, slots := 0, locals := 0 } : Room).slots) := by
  refine MetFree.of_bodySF (plainFor_of_name own_pn0) hisR ?_
  intro p e s m args below meth c s₁ Bd hml0 hP hK
  obtain ⟨rfl, hZ, hh⟩ := hP
  have hx := Bd.exec
  have hby := Bd.bytes
  have hml : c.maxLocals = 1 := hml0
  have hown : s.vm.findClass "com/example/measurewright/measurewright/RelationTakesQuantityPinLaw" = some m.cls := findClass_of_methodNamed Bd.named
  have hnm := (name_of_methodNamed Bd.named Bd.method).1
  have X0 : Stand p l e ({ frames := 0, cells := 0, slots := 0, locals := 0 } : Room) s m #[(.int (2 : Int32))] below meth c s₁ [] 0 0 := Stand.of_body Bd
  have e0 : s₁.heap = h0 := by rw [← hh, Bd.state]; rfl
  have N0 := Fr.nil n0
  have pre0 : ∀ t, Steps p.tables e below (s₁.setTop (mkF m 0 #[.val (.int (2 : Int32))] [])) t → Steps p.tables e below (s₁.setTop (entryFrame m #[(.int (2 : Int32))] 1)) t := fun t k => castTop (own_ef_rm5 m p1 A K ) k
  have KK0 : Keep h0 h0 [] := Keep.refl _ _
  obtain ⟨T15, X15, e15, st15⟩ := getS2 X0 hx hZ hown (host := "") (Or.inl (hw _ (List.mem_of_getElem? (i := 29) rfl))) Via.refl e0 (EN.1.2.2.2.2.1.ext OL0.2) (g := (mkF m 22 #[.val (.int (2 : Int32))] [])) rfl (hb hby own_d_method_2_code_22)
  obtain ⟨fs, hr, hrun, hended, hW, hsame⟩ := X15.leave (v := some (.ref (A 2))) (fun h => by rw [Bd.returns] at h; cases h)
  refine ⟨_, _, pre0 _ ?_, hrun, hended, _, _, rfl, ?_, ⟨_, rfl⟩, hW, hsame.mono (by decide) (by decide)⟩
  · show Steps p.tables e below (s₁.setTop (mkF m 0 #[.val (.int (2 : Int32))] [])) _
    refine XS.iloadN X0.here hx rfl (hb hby own_d_method_2_code_0) rfl ?_
    show Steps p.tables e below (s₁.setTop (mkF m 1 #[.val (.int (2 : Int32))] [(.int (2 : Int32))])) _
    refine XS.ifYes X0.here hx rfl (pc0 := 1) (pc' := 8) rfl (hb hby own_d_method_2_code_1) rfl ((if0 _ _).trans (feq (by decide : ¬ ((2 : Int32) = (0 : Int32)))).2) (by decide) (by decide) ?_
    show Steps p.tables e below (s₁.setTop (mkF m 8 #[.val (.int (2 : Int32))] [])) _
    refine XS.iloadN X0.here hx rfl (hb hby own_d_method_2_code_8) rfl ?_
    show Steps p.tables e below (s₁.setTop (mkF m 9 #[.val (.int (2 : Int32))] [(.int (2 : Int32))])) _
    refine XS.iconst X0.here hx rfl (hb hby own_d_method_2_code_9) ?_
    show Steps p.tables e below (s₁.setTop (mkF m 10 #[.val (.int (2 : Int32))] [(.int (1 : Int32)), (.int (2 : Int32))])) _
    refine XS.icmpYes X0.here hx rfl (pc0 := 10) (pc' := 17) rfl (hb hby own_d_method_2_code_10) rfl (feq (by decide : ¬ ((2 : Int32) = (1 : Int32)))).2 (by decide) (by decide) ?_
    show Steps p.tables e below (s₁.setTop (mkF m 17 #[.val (.int (2 : Int32))] [])) _
    refine XS.iloadN X0.here hx rfl (hb hby own_d_method_2_code_17) rfl ?_
    show Steps p.tables e below (s₁.setTop (mkF m 18 #[.val (.int (2 : Int32))] [(.int (2 : Int32))])) _
    refine XS.iconst X0.here hx rfl (hb hby own_d_method_2_code_18) ?_
    show Steps p.tables e below (s₁.setTop (mkF m 19 #[.val (.int (2 : Int32))] [(.int (2 : Int32)), (.int (2 : Int32))])) _
    refine XS.icmpNo X0.here hx rfl (hb hby own_d_method_2_code_19) rfl (teq (by decide : (2 : Int32) = (2 : Int32))).2 ?_
    show Steps p.tables e below (s₁.setTop (mkF m 22 #[.val (.int (2 : Int32))] [])) _
    refine st15 _ ?_
    show Steps p.tables e below (T15.setTop (mkF m 25 #[.val (.int (2 : Int32))] [(.ref (A 2))])) _
    exact retOut X15 hx Bd.returns rfl (Or.inr (Or.inr (Or.inr (Or.inr ⟨rfl, rfl, rfl⟩)))) (hb hby own_d_method_2_code_25) hr
  · show PQ (some (.ref (A 2))) h0 n0 _ T15.heap _
    rw [e15]
    exact ⟨rfl, N0, rfl⟩
theorem own_ef_rm6 (m : MethodId) (p1 : Int32) (A : Nat → Addr) (K : Nat → ClassId)  : entryFrame m #[(.ref (A 2))] 1 = mkF m 0 #[.val (.ref (A 2))] [] := by first | (simp [entryFrame, mkF, argsToLocals, Value.category, maxLocals]; done) | rfl
set_option maxRecDepth 65536 in
set_option maxHeartbeats 40000000 in
theorem rm6 (l : Launch) (Z : State) (a0 : Array Value) (hw : ∀ d ∈ tables_1, d.before a0 Z = true) (ws : List Jvm.Cond) (h0 : Heap) (n0 : Nat) (p1 : Int32) (A : Nat → Addr) (K : Nat → ClassId)  (EN : own_St Z A K) (OL0 : Old Z n0 h0) :
    MetFree l own_m0 (head1 (Jvm.Cond.code own_m0 prog_24_method_6_code 1 (some .boolean) :: ws) ({ frames := 0, cells := 0, slots := 0, locals := 0 } : Room)) (fun a U => a = #[(.ref (A 2))] ∧ Z.Warmed39 U.vm ∧ U.heap = h0) (fun _ _ _ _ _ => True) (fun _ U o U' => ∃ v L, o = .returned v ∧ (PQ (some (.int (1 : Int32))) h0 n0) v U'.heap L ∧ FrameEnd U o U' L ({ frames := 0, cells := 0, slots := 0, locals := 0 } : Room).cells ({ frames := 0, cells := 0, slots := 0, locals := 0 } : Room).slots) := by
  refine MetFree.of_bodySF (plainFor_of_name own_pn1) hisR ?_
  intro p e s m args below meth c s₁ Bd hml0 hP hK
  obtain ⟨rfl, hZ, hh⟩ := hP
  have hx := Bd.exec
  have hby := Bd.bytes
  have hml : c.maxLocals = 1 := hml0
  have hown : s.vm.findClass "com/example/measurewright/measurewright/Relation" = some m.cls := findClass_of_methodNamed Bd.named
  have hnm := (name_of_methodNamed Bd.named Bd.method).1
  have X0 : Stand p l e ({ frames := 0, cells := 0, slots := 0, locals := 0 } : Room) s m #[(.ref (A 2))] below meth c s₁ [] 0 0 := Stand.of_body Bd
  have e0 : s₁.heap = h0 := by rw [← hh, Bd.state]; rfl
  have N0 := Fr.nil n0
  have pre0 : ∀ t, Steps p.tables e below (s₁.setTop (mkF m 0 #[.val (.ref (A 2))] [])) t → Steps p.tables e below (s₁.setTop (entryFrame m #[(.ref (A 2))] 1)) t := fun t k => castTop (own_ef_rm6 m p1 A K ) k
  have KK0 : Keep h0 h0 [] := Keep.refl _ _
  obtain ⟨T19, X19, e19, st19⟩ := getF X0 hx hZ hown (host := "") (Or.inl (hw _ (List.mem_of_getElem? (i := 17) rfl))) Via.refl e0 (EN.2.2.2.2.2.1.2.2.1.ext OL0.2) (g := (mkF m 1 #[.val (.ref (A 2))] [(.ref (A 2))])) rfl rfl (hb hby own_d_prog_24_method_6_code_1)
  obtain ⟨fs, hr, hrun, hended, hW, hsame⟩ := X19.leave (v := some (.int (1 : Int32))) (fun h => by rw [Bd.returns] at h; cases h)
  refine ⟨_, _, pre0 _ ?_, hrun, hended, _, _, rfl, ?_, ⟨_, rfl⟩, hW, hsame.mono (by decide) (by decide)⟩
  · show Steps p.tables e below (s₁.setTop (mkF m 0 #[.val (.ref (A 2))] [])) _
    refine XS.aloadN X0.here hx rfl (hb hby own_d_prog_24_method_6_code_0) rfl rfl ?_
    show Steps p.tables e below (s₁.setTop (mkF m 1 #[.val (.ref (A 2))] [(.ref (A 2))])) _
    refine st19 _ ?_
    show Steps p.tables e below (T19.setTop (mkF m 4 #[.val (.ref (A 2))] [(.ref (A 21))])) _
    refine XS.ifnullNo X19.here hx rfl (hb hby own_d_prog_24_method_6_code_4) rfl ?_
    show Steps p.tables e below (T19.setTop (mkF m 7 #[.val (.ref (A 2))] [])) _
    refine XS.iconst X19.here hx rfl (hb hby own_d_prog_24_method_6_code_7) ?_
    show Steps p.tables e below (T19.setTop (mkF m 8 #[.val (.ref (A 2))] [(.int (1 : Int32))])) _
    refine XS.goto X19.here hx rfl (pc0 := 8) (pc' := 12) rfl (hb hby own_d_prog_24_method_6_code_8) (by decide) (by decide) ?_
    show Steps p.tables e below (T19.setTop (mkF m 12 #[.val (.ref (A 2))] [(.int (1 : Int32))])) _
    exact retN X19 hx (t := .boolean) Bd.returns (by simp) (hb hby own_d_prog_24_method_6_code_12) hr
  · show PQ (some (.int (1 : Int32))) h0 n0 _ T19.heap _
    rw [e19]
    exact ⟨rfl, N0, rfl⟩
theorem own_d_method_2_code_26 : decode method_2_code 26 = .ok (.iload_n 0, 1) := by decide +kernel
theorem own_d_method_2_code_27 : decode method_2_code 27 = .ok (.iconst 3, 1) := by decide +kernel
theorem own_d_method_2_code_28 : decode method_2_code 28 = .ok (.if_icmp .ne 7, 3) := by decide +kernel
theorem own_d_method_2_code_31 : decode method_2_code 31 = .ok (.getstatic 19, 3) := by decide +kernel
theorem own_d_method_2_code_34 : decode method_2_code 34 = .ok (.areturn, 1) := by decide +kernel
theorem own_ef_rm7 (m : MethodId) (p1 : Int32) (A : Nat → Addr) (K : Nat → ClassId)  : entryFrame m #[(.int (3 : Int32))] 1 = mkF m 0 #[.val (.int (3 : Int32))] [] := by first | (simp [entryFrame, mkF, argsToLocals, Value.category, maxLocals]; done) | rfl
set_option maxRecDepth 65536 in
set_option maxHeartbeats 40000000 in
theorem rm7 (l : Launch) (Z : State) (a0 : Array Value) (hw : ∀ d ∈ tables_1, d.before a0 Z = true) (ws : List Jvm.Cond) (h0 : Heap) (n0 : Nat) (p1 : Int32) (A : Nat → Addr) (K : Nat → ClassId)  (EN : own_St Z A K) (OL0 : Old Z n0 h0) :
    MetFree l own_m1 (head1 (Jvm.Cond.code own_m1 method_2_code 1 (some (.object "com/example/measurewright/measurewright/Relation")) :: ws) ({ frames := 0, cells := 0, slots := 0, locals := 0 } : Room)) (fun a U => a = #[(.int (3 : Int32))] ∧ Z.Warmed39 U.vm ∧ U.heap = h0) (fun _ _ _ _ _ => True) (fun _ U o U' => ∃ v L, o = .returned v ∧ (PQ (some (.ref (A 3))) h0 n0) v U'.heap L ∧ FrameEnd U o U' L ({ frames := 0, cells := 0, slots := 0, locals := 0 } : Room).cells ({ frames := 0, cells := 0, slots := 0, locals := 0 } : Room).slots) := by
  refine MetFree.of_bodySF (plainFor_of_name own_pn0) hisR ?_
  intro p e s m args below meth c s₁ Bd hml0 hP hK
  obtain ⟨rfl, hZ, hh⟩ := hP
  have hx := Bd.exec
  have hby := Bd.bytes
  have hml : c.maxLocals = 1 := hml0
  have hown : s.vm.findClass "com/example/measurewright/measurewright/RelationTakesQuantityPinLaw" = some m.cls := findClass_of_methodNamed Bd.named
  have hnm := (name_of_methodNamed Bd.named Bd.method).1
  have X0 : Stand p l e ({ frames := 0, cells := 0, slots := 0, locals := 0 } : Room) s m #[(.int (3 : Int32))] below meth c s₁ [] 0 0 := Stand.of_body Bd
  have e0 : s₁.heap = h0 := by rw [← hh, Bd.state]; rfl
  have N0 := Fr.nil n0
  have pre0 : ∀ t, Steps p.tables e below (s₁.setTop (mkF m 0 #[.val (.int (3 : Int32))] [])) t → Steps p.tables e below (s₁.setTop (entryFrame m #[(.int (3 : Int32))] 1)) t := fun t k => castTop (own_ef_rm7 m p1 A K ) k
  have KK0 : Keep h0 h0 [] := Keep.refl _ _
  obtain ⟨T21, X21, e21, st21⟩ := getS2 X0 hx hZ hown (host := "") (Or.inl (hw _ (List.mem_of_getElem? (i := 19) rfl))) Via.refl e0 (EN.1.2.2.2.2.2.2.1.ext OL0.2) (g := (mkF m 31 #[.val (.int (3 : Int32))] [])) rfl (hb hby own_d_method_2_code_31)
  obtain ⟨fs, hr, hrun, hended, hW, hsame⟩ := X21.leave (v := some (.ref (A 3))) (fun h => by rw [Bd.returns] at h; cases h)
  refine ⟨_, _, pre0 _ ?_, hrun, hended, _, _, rfl, ?_, ⟨_, rfl⟩, hW, hsame.mono (by decide) (by decide)⟩
  · show Steps p.tables e below (s₁.setTop (mkF m 0 #[.val (.int (3 : Int32))] [])) _
    refine XS.iloadN X0.here hx rfl (hb hby own_d_method_2_code_0) rfl ?_
    show Steps p.tables e below (s₁.setTop (mkF m 1 #[.val (.int (3 : Int32))] [(.int (3 : Int32))])) _
    refine XS.ifYes X0.here hx rfl (pc0 := 1) (pc' := 8) rfl (hb hby own_d_method_2_code_1) rfl ((if0 _ _).trans (feq (by decide : ¬ ((3 : Int32) = (0 : Int32)))).2) (by decide) (by decide) ?_
    show Steps p.tables e below (s₁.setTop (mkF m 8 #[.val (.int (3 : Int32))] [])) _
    refine XS.iloadN X0.here hx rfl (hb hby own_d_method_2_code_8) rfl ?_
    show Steps p.tables e below (s₁.setTop (mkF m 9 #[.val (.int (3 : Int32))] [(.int (3 : Int32))])) _
    refine XS.iconst X0.here hx rfl (hb hby own_d_method_2_code_9) ?_
    show Steps p.tables e below (s₁.setTop (mkF m 10 #[.val (.int (3 : Int32))] [(.int (1 : Int32)), (.int (3 : Int32))])) _
    refine XS.icmpYes X0.here hx rfl (pc0 := 10) (pc' := 17) rfl (hb hby own_d_method_2_code_10) rfl (feq (by decide : ¬ ((3 : Int32) = (1 : Int32)))).2 (by decide) (by decide) ?_
    show Steps p.tables e below (s₁.setTop (mkF m 17 #[.val (.int (3 : Int32))] [])) _
    refine XS.iloadN X0.here hx rfl (hb hby own_d_method_2_code_17) rfl ?_
    show Steps p.tables e below (s₁.setTop (mkF m 18 #[.val (.int (3 : Int32))] [(.int (3 : Int32))])) _
    refine XS.iconst X0.here hx rfl (hb hby own_d_method_2_code_18) ?_
    show Steps p.tables e below (s₁.setTop (mkF m 19 #[.val (.int (3 : Int32))] [(.int (2 : Int32)), (.int (3 : Int32))])) _
    refine XS.icmpYes X0.here hx rfl (pc0 := 19) (pc' := 26) rfl (hb hby own_d_method_2_code_19) rfl (feq (by decide : ¬ ((3 : Int32) = (2 : Int32)))).2 (by decide) (by decide) ?_
    show Steps p.tables e below (s₁.setTop (mkF m 26 #[.val (.int (3 : Int32))] [])) _
    refine XS.iloadN X0.here hx rfl (hb hby own_d_method_2_code_26) rfl ?_
    show Steps p.tables e below (s₁.setTop (mkF m 27 #[.val (.int (3 : Int32))] [(.int (3 : Int32))])) _
    refine XS.iconst X0.here hx rfl (hb hby own_d_method_2_code_27) ?_
    show Steps p.tables e below (s₁.setTop (mkF m 28 #[.val (.int (3 : Int32))] [(.int (3 : Int32)), (.int (3 : Int32))])) _
    refine XS.icmpNo X0.here hx rfl (hb hby own_d_method_2_code_28) rfl (teq (by decide : (3 : Int32) = (3 : Int32))).2 ?_
    show Steps p.tables e below (s₁.setTop (mkF m 31 #[.val (.int (3 : Int32))] [])) _
    refine st21 _ ?_
    show Steps p.tables e below (T21.setTop (mkF m 34 #[.val (.int (3 : Int32))] [(.ref (A 3))])) _
    exact retOut X21 hx Bd.returns rfl (Or.inr (Or.inr (Or.inr (Or.inr ⟨rfl, rfl, rfl⟩)))) (hb hby own_d_method_2_code_34) hr
  · show PQ (some (.ref (A 3))) h0 n0 _ T21.heap _
    rw [e21]
    exact ⟨rfl, N0, rfl⟩
theorem own_ef_rm8 (m : MethodId) (p1 : Int32) (A : Nat → Addr) (K : Nat → ClassId)  : entryFrame m #[(.ref (A 3))] 1 = mkF m 0 #[.val (.ref (A 3))] [] := by first | (simp [entryFrame, mkF, argsToLocals, Value.category, maxLocals]; done) | rfl
set_option maxRecDepth 65536 in
set_option maxHeartbeats 40000000 in
theorem rm8 (l : Launch) (Z : State) (a0 : Array Value) (hw : ∀ d ∈ tables_1, d.before a0 Z = true) (ws : List Jvm.Cond) (h0 : Heap) (n0 : Nat) (p1 : Int32) (A : Nat → Addr) (K : Nat → ClassId)  (EN : own_St Z A K) (OL0 : Old Z n0 h0) :
    MetFree l own_m0 (head1 (Jvm.Cond.code own_m0 prog_24_method_6_code 1 (some .boolean) :: ws) ({ frames := 0, cells := 0, slots := 0, locals := 0 } : Room)) (fun a U => a = #[(.ref (A 3))] ∧ Z.Warmed39 U.vm ∧ U.heap = h0) (fun _ _ _ _ _ => True) (fun _ U o U' => ∃ v L, o = .returned v ∧ (PQ (some (.int (1 : Int32))) h0 n0) v U'.heap L ∧ FrameEnd U o U' L ({ frames := 0, cells := 0, slots := 0, locals := 0 } : Room).cells ({ frames := 0, cells := 0, slots := 0, locals := 0 } : Room).slots) := by
  refine MetFree.of_bodySF (plainFor_of_name own_pn1) hisR ?_
  intro p e s m args below meth c s₁ Bd hml0 hP hK
  obtain ⟨rfl, hZ, hh⟩ := hP
  have hx := Bd.exec
  have hby := Bd.bytes
  have hml : c.maxLocals = 1 := hml0
  have hown : s.vm.findClass "com/example/measurewright/measurewright/Relation" = some m.cls := findClass_of_methodNamed Bd.named
  have hnm := (name_of_methodNamed Bd.named Bd.method).1
  have X0 : Stand p l e ({ frames := 0, cells := 0, slots := 0, locals := 0 } : Room) s m #[(.ref (A 3))] below meth c s₁ [] 0 0 := Stand.of_body Bd
  have e0 : s₁.heap = h0 := by rw [← hh, Bd.state]; rfl
  have N0 := Fr.nil n0
  have pre0 : ∀ t, Steps p.tables e below (s₁.setTop (mkF m 0 #[.val (.ref (A 3))] [])) t → Steps p.tables e below (s₁.setTop (entryFrame m #[(.ref (A 3))] 1)) t := fun t k => castTop (own_ef_rm8 m p1 A K ) k
  have KK0 : Keep h0 h0 [] := Keep.refl _ _
  obtain ⟨T25, X25, e25, st25⟩ := getF X0 hx hZ hown (host := "") (Or.inl (hw _ (List.mem_of_getElem? (i := 17) rfl))) Via.refl e0 (EN.2.2.2.2.1.1.ext OL0.2) (g := (mkF m 1 #[.val (.ref (A 3))] [(.ref (A 3))])) rfl rfl (hb hby own_d_prog_24_method_6_code_1)
  obtain ⟨fs, hr, hrun, hended, hW, hsame⟩ := X25.leave (v := some (.int (1 : Int32))) (fun h => by rw [Bd.returns] at h; cases h)
  refine ⟨_, _, pre0 _ ?_, hrun, hended, _, _, rfl, ?_, ⟨_, rfl⟩, hW, hsame.mono (by decide) (by decide)⟩
  · show Steps p.tables e below (s₁.setTop (mkF m 0 #[.val (.ref (A 3))] [])) _
    refine XS.aloadN X0.here hx rfl (hb hby own_d_prog_24_method_6_code_0) rfl rfl ?_
    show Steps p.tables e below (s₁.setTop (mkF m 1 #[.val (.ref (A 3))] [(.ref (A 3))])) _
    refine st25 _ ?_
    show Steps p.tables e below (T25.setTop (mkF m 4 #[.val (.ref (A 3))] [(.ref (A 16))])) _
    refine XS.ifnullNo X25.here hx rfl (hb hby own_d_prog_24_method_6_code_4) rfl ?_
    show Steps p.tables e below (T25.setTop (mkF m 7 #[.val (.ref (A 3))] [])) _
    refine XS.iconst X25.here hx rfl (hb hby own_d_prog_24_method_6_code_7) ?_
    show Steps p.tables e below (T25.setTop (mkF m 8 #[.val (.ref (A 3))] [(.int (1 : Int32))])) _
    refine XS.goto X25.here hx rfl (pc0 := 8) (pc' := 12) rfl (hb hby own_d_prog_24_method_6_code_8) (by decide) (by decide) ?_
    show Steps p.tables e below (T25.setTop (mkF m 12 #[.val (.ref (A 3))] [(.int (1 : Int32))])) _
    exact retN X25 hx (t := .boolean) Bd.returns (by simp) (hb hby own_d_prog_24_method_6_code_12) hr
  · show PQ (some (.int (1 : Int32))) h0 n0 _ T25.heap _
    rw [e25]
    exact ⟨rfl, N0, rfl⟩
theorem own_d_method_2_code_35 : decode method_2_code 35 = .ok (.iload_n 0, 1) := by decide +kernel
theorem own_d_method_2_code_36 : decode method_2_code 36 = .ok (.iconst 4, 1) := by decide +kernel
theorem own_d_method_2_code_37 : decode method_2_code 37 = .ok (.if_icmp .ne 7, 3) := by decide +kernel
theorem own_d_method_2_code_40 : decode method_2_code 40 = .ok (.getstatic 22, 3) := by decide +kernel
theorem own_d_method_2_code_43 : decode method_2_code 43 = .ok (.areturn, 1) := by decide +kernel
theorem own_ef_rm9 (m : MethodId) (p1 : Int32) (A : Nat → Addr) (K : Nat → ClassId)  : entryFrame m #[(.int (4 : Int32))] 1 = mkF m 0 #[.val (.int (4 : Int32))] [] := by first | (simp [entryFrame, mkF, argsToLocals, Value.category, maxLocals]; done) | rfl
set_option maxRecDepth 65536 in
set_option maxHeartbeats 40000000 in
theorem rm9 (l : Launch) (Z : State) (a0 : Array Value) (hw : ∀ d ∈ tables_1, d.before a0 Z = true) (ws : List Jvm.Cond) (h0 : Heap) (n0 : Nat) (p1 : Int32) (A : Nat → Addr) (K : Nat → ClassId)  (EN : own_St Z A K) (OL0 : Old Z n0 h0) :
    MetFree l own_m1 (head1 (Jvm.Cond.code own_m1 method_2_code 1 (some (.object "com/example/measurewright/measurewright/Relation")) :: ws) ({ frames := 0, cells := 0, slots := 0, locals := 0 } : Room)) (fun a U => a = #[(.int (4 : Int32))] ∧ Z.Warmed39 U.vm ∧ U.heap = h0) (fun _ _ _ _ _ => True) (fun _ U o U' => ∃ v L, o = .returned v ∧ (PQ (some (.ref (A 4))) h0 n0) v U'.heap L ∧ FrameEnd U o U' L ({ frames := 0, cells := 0, slots := 0, locals := 0 } : Room).cells ({ frames := 0, cells := 0, slots := 0, locals := 0 } : Room).slots) := by
  refine MetFree.of_bodySF (plainFor_of_name own_pn0) hisR ?_
  intro p e s m args below meth c s₁ Bd hml0 hP hK
  obtain ⟨rfl, hZ, hh⟩ := hP
  have hx := Bd.exec
  have hby := Bd.bytes
  have hml : c.maxLocals = 1 := hml0
  have hown : s.vm.findClass "com/example/measurewright/measurewright/RelationTakesQuantityPinLaw" = some m.cls := findClass_of_methodNamed Bd.named
  have hnm := (name_of_methodNamed Bd.named Bd.method).1
  have X0 : Stand p l e ({ frames := 0, cells := 0, slots := 0, locals := 0 } : Room) s m #[(.int (4 : Int32))] below meth c s₁ [] 0 0 := Stand.of_body Bd
  have e0 : s₁.heap = h0 := by rw [← hh, Bd.state]; rfl
  have N0 := Fr.nil n0
  have pre0 : ∀ t, Steps p.tables e below (s₁.setTop (mkF m 0 #[.val (.int (4 : Int32))] [])) t → Steps p.tables e below (s₁.setTop (entryFrame m #[(.int (4 : Int32))] 1)) t := fun t k => castTop (own_ef_rm9 m p1 A K ) k
  have KK0 : Keep h0 h0 [] := Keep.refl _ _
  obtain ⟨T27, X27, e27, st27⟩ := getS2 X0 hx hZ hown (host := "") (Or.inl (hw _ (List.mem_of_getElem? (i := 39) rfl))) Via.refl e0 (EN.2.1.1.ext OL0.2) (g := (mkF m 40 #[.val (.int (4 : Int32))] [])) rfl (hb hby own_d_method_2_code_40)
  obtain ⟨fs, hr, hrun, hended, hW, hsame⟩ := X27.leave (v := some (.ref (A 4))) (fun h => by rw [Bd.returns] at h; cases h)
  refine ⟨_, _, pre0 _ ?_, hrun, hended, _, _, rfl, ?_, ⟨_, rfl⟩, hW, hsame.mono (by decide) (by decide)⟩
  · show Steps p.tables e below (s₁.setTop (mkF m 0 #[.val (.int (4 : Int32))] [])) _
    refine XS.iloadN X0.here hx rfl (hb hby own_d_method_2_code_0) rfl ?_
    show Steps p.tables e below (s₁.setTop (mkF m 1 #[.val (.int (4 : Int32))] [(.int (4 : Int32))])) _
    refine XS.ifYes X0.here hx rfl (pc0 := 1) (pc' := 8) rfl (hb hby own_d_method_2_code_1) rfl ((if0 _ _).trans (feq (by decide : ¬ ((4 : Int32) = (0 : Int32)))).2) (by decide) (by decide) ?_
    show Steps p.tables e below (s₁.setTop (mkF m 8 #[.val (.int (4 : Int32))] [])) _
    refine XS.iloadN X0.here hx rfl (hb hby own_d_method_2_code_8) rfl ?_
    show Steps p.tables e below (s₁.setTop (mkF m 9 #[.val (.int (4 : Int32))] [(.int (4 : Int32))])) _
    refine XS.iconst X0.here hx rfl (hb hby own_d_method_2_code_9) ?_
    show Steps p.tables e below (s₁.setTop (mkF m 10 #[.val (.int (4 : Int32))] [(.int (1 : Int32)), (.int (4 : Int32))])) _
    refine XS.icmpYes X0.here hx rfl (pc0 := 10) (pc' := 17) rfl (hb hby own_d_method_2_code_10) rfl (feq (by decide : ¬ ((4 : Int32) = (1 : Int32)))).2 (by decide) (by decide) ?_
    show Steps p.tables e below (s₁.setTop (mkF m 17 #[.val (.int (4 : Int32))] [])) _
    refine XS.iloadN X0.here hx rfl (hb hby own_d_method_2_code_17) rfl ?_
    show Steps p.tables e below (s₁.setTop (mkF m 18 #[.val (.int (4 : Int32))] [(.int (4 : Int32))])) _
    refine XS.iconst X0.here hx rfl (hb hby own_d_method_2_code_18) ?_
    show Steps p.tables e below (s₁.setTop (mkF m 19 #[.val (.int (4 : Int32))] [(.int (2 : Int32)), (.int (4 : Int32))])) _
    refine XS.icmpYes X0.here hx rfl (pc0 := 19) (pc' := 26) rfl (hb hby own_d_method_2_code_19) rfl (feq (by decide : ¬ ((4 : Int32) = (2 : Int32)))).2 (by decide) (by decide) ?_
    show Steps p.tables e below (s₁.setTop (mkF m 26 #[.val (.int (4 : Int32))] [])) _
    refine XS.iloadN X0.here hx rfl (hb hby own_d_method_2_code_26) rfl ?_
    show Steps p.tables e below (s₁.setTop (mkF m 27 #[.val (.int (4 : Int32))] [(.int (4 : Int32))])) _
    refine XS.iconst X0.here hx rfl (hb hby own_d_method_2_code_27) ?_
    show Steps p.tables e below (s₁.setTop (mkF m 28 #[.val (.int (4 : Int32))] [(.int (3 : Int32)), (.int (4 : Int32))])) _
    refine XS.icmpYes X0.here hx rfl (pc0 := 28) (pc' := 35) rfl (hb hby own_d_method_2_code_28) rfl (feq (by decide : ¬ ((4 : Int32) = (3 : Int32)))).2 (by decide) (by decide) ?_
    show Steps p.tables e below (s₁.setTop (mkF m 35 #[.val (.int (4 : Int32))] [])) _
    refine XS.iloadN X0.here hx rfl (hb hby own_d_method_2_code_35) rfl ?_
    show Steps p.tables e below (s₁.setTop (mkF m 36 #[.val (.int (4 : Int32))] [(.int (4 : Int32))])) _
    refine XS.iconst X0.here hx rfl (hb hby own_d_method_2_code_36) ?_
    show Steps p.tables e below (s₁.setTop (mkF m 37 #[.val (.int (4 : Int32))] [(.int (4 : Int32)), (.int (4 : Int32))])) _
    refine XS.icmpNo X0.here hx rfl (hb hby own_d_method_2_code_37) rfl (teq (by decide : (4 : Int32) = (4 : Int32))).2 ?_
    show Steps p.tables e below (s₁.setTop (mkF m 40 #[.val (.int (4 : Int32))] [])) _
    refine st27 _ ?_
    show Steps p.tables e below (T27.setTop (mkF m 43 #[.val (.int (4 : Int32))] [(.ref (A 4))])) _
    exact retOut X27 hx Bd.returns rfl (Or.inr (Or.inr (Or.inr (Or.inr ⟨rfl, rfl, rfl⟩)))) (hb hby own_d_method_2_code_43) hr
  · show PQ (some (.ref (A 4))) h0 n0 _ T27.heap _
    rw [e27]
    exact ⟨rfl, N0, rfl⟩
theorem own_ef_rm10 (m : MethodId) (p1 : Int32) (A : Nat → Addr) (K : Nat → ClassId)  : entryFrame m #[(.ref (A 4))] 1 = mkF m 0 #[.val (.ref (A 4))] [] := by first | (simp [entryFrame, mkF, argsToLocals, Value.category, maxLocals]; done) | rfl
set_option maxRecDepth 65536 in
set_option maxHeartbeats 40000000 in
theorem rm10 (l : Launch) (Z : State) (a0 : Array Value) (hw : ∀ d ∈ tables_1, d.before a0 Z = true) (ws : List Jvm.Cond) (h0 : Heap) (n0 : Nat) (p1 : Int32) (A : Nat → Addr) (K : Nat → ClassId)  (EN : own_St Z A K) (OL0 : Old Z n0 h0) :
    MetFree l own_m0 (head1 (Jvm.Cond.code own_m0 prog_24_method_6_code 1 (some .boolean) :: ws) ({ frames := 0, cells := 0, slots := 0, locals := 0 } : Room)) (fun a U => a = #[(.ref (A 4))] ∧ Z.Warmed39 U.vm ∧ U.heap = h0) (fun _ _ _ _ _ => True) (fun _ U o U' => ∃ v L, o = .returned v ∧ (PQ (some (.int (1 : Int32))) h0 n0) v U'.heap L ∧ FrameEnd U o U' L ({ frames := 0, cells := 0, slots := 0, locals := 0 } : Room).cells ({ frames := 0, cells := 0, slots := 0, locals := 0 } : Room).slots) := by
  refine MetFree.of_bodySF (plainFor_of_name own_pn1) hisR ?_
  intro p e s m args below meth c s₁ Bd hml0 hP hK
  obtain ⟨rfl, hZ, hh⟩ := hP
  have hx := Bd.exec
  have hby := Bd.bytes
  have hml : c.maxLocals = 1 := hml0
  have hown : s.vm.findClass "com/example/measurewright/measurewright/Relation" = some m.cls := findClass_of_methodNamed Bd.named
  have hnm := (name_of_methodNamed Bd.named Bd.method).1
  have X0 : Stand p l e ({ frames := 0, cells := 0, slots := 0, locals := 0 } : Room) s m #[(.ref (A 4))] below meth c s₁ [] 0 0 := Stand.of_body Bd
  have e0 : s₁.heap = h0 := by rw [← hh, Bd.state]; rfl
  have N0 := Fr.nil n0
  have pre0 : ∀ t, Steps p.tables e below (s₁.setTop (mkF m 0 #[.val (.ref (A 4))] [])) t → Steps p.tables e below (s₁.setTop (entryFrame m #[(.ref (A 4))] 1)) t := fun t k => castTop (own_ef_rm10 m p1 A K ) k
  have KK0 : Keep h0 h0 [] := Keep.refl _ _
  obtain ⟨T31, X31, e31, st31⟩ := getF X0 hx hZ hown (host := "") (Or.inl (hw _ (List.mem_of_getElem? (i := 17) rfl))) Via.refl e0 (EN.2.2.2.2.2.2.1.2.2.2.2.1.ext OL0.2) (g := (mkF m 1 #[.val (.ref (A 4))] [(.ref (A 4))])) rfl rfl (hb hby own_d_prog_24_method_6_code_1)
  obtain ⟨fs, hr, hrun, hended, hW, hsame⟩ := X31.leave (v := some (.int (1 : Int32))) (fun h => by rw [Bd.returns] at h; cases h)
  refine ⟨_, _, pre0 _ ?_, hrun, hended, _, _, rfl, ?_, ⟨_, rfl⟩, hW, hsame.mono (by decide) (by decide)⟩
  · show Steps p.tables e below (s₁.setTop (mkF m 0 #[.val (.ref (A 4))] [])) _
    refine XS.aloadN X0.here hx rfl (hb hby own_d_prog_24_method_6_code_0) rfl rfl ?_
    show Steps p.tables e below (s₁.setTop (mkF m 1 #[.val (.ref (A 4))] [(.ref (A 4))])) _
    refine st31 _ ?_
    show Steps p.tables e below (T31.setTop (mkF m 4 #[.val (.ref (A 4))] [(.ref (A 26))])) _
    refine XS.ifnullNo X31.here hx rfl (hb hby own_d_prog_24_method_6_code_4) rfl ?_
    show Steps p.tables e below (T31.setTop (mkF m 7 #[.val (.ref (A 4))] [])) _
    refine XS.iconst X31.here hx rfl (hb hby own_d_prog_24_method_6_code_7) ?_
    show Steps p.tables e below (T31.setTop (mkF m 8 #[.val (.ref (A 4))] [(.int (1 : Int32))])) _
    refine XS.goto X31.here hx rfl (pc0 := 8) (pc' := 12) rfl (hb hby own_d_prog_24_method_6_code_8) (by decide) (by decide) ?_
    show Steps p.tables e below (T31.setTop (mkF m 12 #[.val (.ref (A 4))] [(.int (1 : Int32))])) _
    exact retN X31 hx (t := .boolean) Bd.returns (by simp) (hb hby own_d_prog_24_method_6_code_12) hr
  · show PQ (some (.int (1 : Int32))) h0 n0 _ T31.heap _
    rw [e31]
    exact ⟨rfl, N0, rfl⟩
theorem own_d_method_2_code_44 : decode method_2_code 44 = .ok (.iload_n 0, 1) := by decide +kernel
theorem own_d_method_2_code_45 : decode method_2_code 45 = .ok (.iconst 5, 1) := by decide +kernel
theorem own_d_method_2_code_46 : decode method_2_code 46 = .ok (.if_icmp .ne 7, 3) := by decide +kernel
theorem own_d_method_2_code_49 : decode method_2_code 49 = .ok (.getstatic 25, 3) := by decide +kernel
theorem own_d_method_2_code_52 : decode method_2_code 52 = .ok (.areturn, 1) := by decide +kernel
theorem own_ef_rm11 (m : MethodId) (p1 : Int32) (A : Nat → Addr) (K : Nat → ClassId)  : entryFrame m #[(.int (5 : Int32))] 1 = mkF m 0 #[.val (.int (5 : Int32))] [] := by first | (simp [entryFrame, mkF, argsToLocals, Value.category, maxLocals]; done) | rfl
set_option maxRecDepth 65536 in
set_option maxHeartbeats 40000000 in
theorem rm11 (l : Launch) (Z : State) (a0 : Array Value) (hw : ∀ d ∈ tables_1, d.before a0 Z = true) (ws : List Jvm.Cond) (h0 : Heap) (n0 : Nat) (p1 : Int32) (A : Nat → Addr) (K : Nat → ClassId)  (EN : own_St Z A K) (OL0 : Old Z n0 h0) :
    MetFree l own_m1 (head1 (Jvm.Cond.code own_m1 method_2_code 1 (some (.object "com/example/measurewright/measurewright/Relation")) :: ws) ({ frames := 0, cells := 0, slots := 0, locals := 0 } : Room)) (fun a U => a = #[(.int (5 : Int32))] ∧ Z.Warmed39 U.vm ∧ U.heap = h0) (fun _ _ _ _ _ => True) (fun _ U o U' => ∃ v L, o = .returned v ∧ (PQ (some (.ref (A 5))) h0 n0) v U'.heap L ∧ FrameEnd U o U' L ({ frames := 0, cells := 0, slots := 0, locals := 0 } : Room).cells ({ frames := 0, cells := 0, slots := 0, locals := 0 } : Room).slots) := by
  refine MetFree.of_bodySF (plainFor_of_name own_pn0) hisR ?_
  intro p e s m args below meth c s₁ Bd hml0 hP hK
  obtain ⟨rfl, hZ, hh⟩ := hP
  have hx := Bd.exec
  have hby := Bd.bytes
  have hml : c.maxLocals = 1 := hml0
  have hown : s.vm.findClass "com/example/measurewright/measurewright/RelationTakesQuantityPinLaw" = some m.cls := findClass_of_methodNamed Bd.named
  have hnm := (name_of_methodNamed Bd.named Bd.method).1
  have X0 : Stand p l e ({ frames := 0, cells := 0, slots := 0, locals := 0 } : Room) s m #[(.int (5 : Int32))] below meth c s₁ [] 0 0 := Stand.of_body Bd
  have e0 : s₁.heap = h0 := by rw [← hh, Bd.state]; rfl
  have N0 := Fr.nil n0
  have pre0 : ∀ t, Steps p.tables e below (s₁.setTop (mkF m 0 #[.val (.int (5 : Int32))] [])) t → Steps p.tables e below (s₁.setTop (entryFrame m #[(.int (5 : Int32))] 1)) t := fun t k => castTop (own_ef_rm11 m p1 A K ) k
  have KK0 : Keep h0 h0 [] := Keep.refl _ _
  obtain ⟨T33, X33, e33, st33⟩ := getS2 X0 hx hZ hown (host := "") (Or.inl (hw _ (List.mem_of_getElem? (i := 21) rfl))) Via.refl e0 (EN.2.1.2.2.1.ext OL0.2) (g := (mkF m 49 #[.val (.int (5 : Int32))] [])) rfl (hb hby own_d_method_2_code_49)
  obtain ⟨fs, hr, hrun, hended, hW, hsame⟩ := X33.leave (v := some (.ref (A 5))) (fun h => by rw [Bd.returns] at h; cases h)
  refine ⟨_, _, pre0 _ ?_, hrun, hended, _, _, rfl, ?_, ⟨_, rfl⟩, hW, hsame.mono (by decide) (by decide)⟩
  · show Steps p.tables e below (s₁.setTop (mkF m 0 #[.val (.int (5 : Int32))] [])) _
    refine XS.iloadN X0.here hx rfl (hb hby own_d_method_2_code_0) rfl ?_
    show Steps p.tables e below (s₁.setTop (mkF m 1 #[.val (.int (5 : Int32))] [(.int (5 : Int32))])) _
    refine XS.ifYes X0.here hx rfl (pc0 := 1) (pc' := 8) rfl (hb hby own_d_method_2_code_1) rfl ((if0 _ _).trans (feq (by decide : ¬ ((5 : Int32) = (0 : Int32)))).2) (by decide) (by decide) ?_
    show Steps p.tables e below (s₁.setTop (mkF m 8 #[.val (.int (5 : Int32))] [])) _
    refine XS.iloadN X0.here hx rfl (hb hby own_d_method_2_code_8) rfl ?_
    show Steps p.tables e below (s₁.setTop (mkF m 9 #[.val (.int (5 : Int32))] [(.int (5 : Int32))])) _
    refine XS.iconst X0.here hx rfl (hb hby own_d_method_2_code_9) ?_
    show Steps p.tables e below (s₁.setTop (mkF m 10 #[.val (.int (5 : Int32))] [(.int (1 : Int32)), (.int (5 : Int32))])) _
    refine XS.icmpYes X0.here hx rfl (pc0 := 10) (pc' := 17) rfl (hb hby own_d_method_2_code_10) rfl (feq (by decide : ¬ ((5 : Int32) = (1 : Int32)))).2 (by decide) (by decide) ?_
    show Steps p.tables e below (s₁.setTop (mkF m 17 #[.val (.int (5 : Int32))] [])) _
    refine XS.iloadN X0.here hx rfl (hb hby own_d_method_2_code_17) rfl ?_
    show Steps p.tables e below (s₁.setTop (mkF m 18 #[.val (.int (5 : Int32))] [(.int (5 : Int32))])) _
    refine XS.iconst X0.here hx rfl (hb hby own_d_method_2_code_18) ?_
    show Steps p.tables e below (s₁.setTop (mkF m 19 #[.val (.int (5 : Int32))] [(.int (2 : Int32)), (.int (5 : Int32))])) _
    refine XS.icmpYes X0.here hx rfl (pc0 := 19) (pc' := 26) rfl (hb hby own_d_method_2_code_19) rfl (feq (by decide : ¬ ((5 : Int32) = (2 : Int32)))).2 (by decide) (by decide) ?_
    show Steps p.tables e below (s₁.setTop (mkF m 26 #[.val (.int (5 : Int32))] [])) _
    refine XS.iloadN X0.here hx rfl (hb hby own_d_method_2_code_26) rfl ?_
    show Steps p.tables e below (s₁.setTop (mkF m 27 #[.val (.int (5 : Int32))] [(.int (5 : Int32))])) _
    refine XS.iconst X0.here hx rfl (hb hby own_d_method_2_code_27) ?_
    show Steps p.tables e below (s₁.setTop (mkF m 28 #[.val (.int (5 : Int32))] [(.int (3 : Int32)), (.int (5 : Int32))])) _
    refine XS.icmpYes X0.here hx rfl (pc0 := 28) (pc' := 35) rfl (hb hby own_d_method_2_code_28) rfl (feq (by decide : ¬ ((5 : Int32) = (3 : Int32)))).2 (by decide) (by decide) ?_
    show Steps p.tables e below (s₁.setTop (mkF m 35 #[.val (.int (5 : Int32))] [])) _
    refine XS.iloadN X0.here hx rfl (hb hby own_d_method_2_code_35) rfl ?_
    show Steps p.tables e below (s₁.setTop (mkF m 36 #[.val (.int (5 : Int32))] [(.int (5 : Int32))])) _
    refine XS.iconst X0.here hx rfl (hb hby own_d_method_2_code_36) ?_
    show Steps p.tables e below (s₁.setTop (mkF m 37 #[.val (.int (5 : Int32))] [(.int (4 : Int32)), (.int (5 : Int32))])) _
    refine XS.icmpYes X0.here hx rfl (pc0 := 37) (pc' := 44) rfl (hb hby own_d_method_2_code_37) rfl (feq (by decide : ¬ ((5 : Int32) = (4 : Int32)))).2 (by decide) (by decide) ?_
    show Steps p.tables e below (s₁.setTop (mkF m 44 #[.val (.int (5 : Int32))] [])) _
    refine XS.iloadN X0.here hx rfl (hb hby own_d_method_2_code_44) rfl ?_
    show Steps p.tables e below (s₁.setTop (mkF m 45 #[.val (.int (5 : Int32))] [(.int (5 : Int32))])) _
    refine XS.iconst X0.here hx rfl (hb hby own_d_method_2_code_45) ?_
    show Steps p.tables e below (s₁.setTop (mkF m 46 #[.val (.int (5 : Int32))] [(.int (5 : Int32)), (.int (5 : Int32))])) _
    refine XS.icmpNo X0.here hx rfl (hb hby own_d_method_2_code_46) rfl (teq (by decide : (5 : Int32) = (5 : Int32))).2 ?_
    show Steps p.tables e below (s₁.setTop (mkF m 49 #[.val (.int (5 : Int32))] [])) _
    refine st33 _ ?_
    show Steps p.tables e below (T33.setTop (mkF m 52 #[.val (.int (5 : Int32))] [(.ref (A 5))])) _
    exact retOut X33 hx Bd.returns rfl (Or.inr (Or.inr (Or.inr (Or.inr ⟨rfl, rfl, rfl⟩)))) (hb hby own_d_method_2_code_52) hr
  · show PQ (some (.ref (A 5))) h0 n0 _ T33.heap _
    rw [e33]
    exact ⟨rfl, N0, rfl⟩
theorem own_ef_rm12 (m : MethodId) (p1 : Int32) (A : Nat → Addr) (K : Nat → ClassId)  : entryFrame m #[(.ref (A 5))] 1 = mkF m 0 #[.val (.ref (A 5))] [] := by first | (simp [entryFrame, mkF, argsToLocals, Value.category, maxLocals]; done) | rfl
set_option maxRecDepth 65536 in
set_option maxHeartbeats 40000000 in
theorem rm12 (l : Launch) (Z : State) (a0 : Array Value) (hw : ∀ d ∈ tables_1, d.before a0 Z = true) (ws : List Jvm.Cond) (h0 : Heap) (n0 : Nat) (p1 : Int32) (A : Nat → Addr) (K : Nat → ClassId)  (EN : own_St Z A K) (OL0 : Old Z n0 h0) :
    MetFree l own_m0 (head1 (Jvm.Cond.code own_m0 prog_24_method_6_code 1 (some .boolean) :: ws) ({ frames := 0, cells := 0, slots := 0, locals := 0 } : Room)) (fun a U => a = #[(.ref (A 5))] ∧ Z.Warmed39 U.vm ∧ U.heap = h0) (fun _ _ _ _ _ => True) (fun _ U o U' => ∃ v L, o = .returned v ∧ (PQ (some (.int (1 : Int32))) h0 n0) v U'.heap L ∧ FrameEnd U o U' L ({ frames := 0, cells := 0, slots := 0, locals := 0 } : Room).cells ({ frames := 0, cells := 0, slots := 0, locals := 0 } : Room).slots) := by
  refine MetFree.of_bodySF (plainFor_of_name own_pn1) hisR ?_
  intro p e s m args below meth c s₁ Bd hml0 hP hK
  obtain ⟨rfl, hZ, hh⟩ := hP
  have hx := Bd.exec
  have hby := Bd.bytes
  have hml : c.maxLocals = 1 := hml0
  have hown : s.vm.findClass "com/example/measurewright/measurewright/Relation" = some m.cls := findClass_of_methodNamed Bd.named
  have hnm := (name_of_methodNamed Bd.named Bd.method).1
  have X0 : Stand p l e ({ frames := 0, cells := 0, slots := 0, locals := 0 } : Room) s m #[(.ref (A 5))] below meth c s₁ [] 0 0 := Stand.of_body Bd
  have e0 : s₁.heap = h0 := by rw [← hh, Bd.state]; rfl
  have N0 := Fr.nil n0
  have pre0 : ∀ t, Steps p.tables e below (s₁.setTop (mkF m 0 #[.val (.ref (A 5))] [])) t → Steps p.tables e below (s₁.setTop (entryFrame m #[(.ref (A 5))] 1)) t := fun t k => castTop (own_ef_rm12 m p1 A K ) k
  have KK0 : Keep h0 h0 [] := Keep.refl _ _
  obtain ⟨T37, X37, e37, st37⟩ := getF X0 hx hZ hown (host := "") (Or.inl (hw _ (List.mem_of_getElem? (i := 17) rfl))) Via.refl e0 (EN.2.2.2.2.1.2.2.1.ext OL0.2) (g := (mkF m 1 #[.val (.ref (A 5))] [(.ref (A 5))])) rfl rfl (hb hby own_d_prog_24_method_6_code_1)
  obtain ⟨fs, hr, hrun, hended, hW, hsame⟩ := X37.leave (v := some (.int (1 : Int32))) (fun h => by rw [Bd.returns] at h; cases h)
  refine ⟨_, _, pre0 _ ?_, hrun, hended, _, _, rfl, ?_, ⟨_, rfl⟩, hW, hsame.mono (by decide) (by decide)⟩
  · show Steps p.tables e below (s₁.setTop (mkF m 0 #[.val (.ref (A 5))] [])) _
    refine XS.aloadN X0.here hx rfl (hb hby own_d_prog_24_method_6_code_0) rfl rfl ?_
    show Steps p.tables e below (s₁.setTop (mkF m 1 #[.val (.ref (A 5))] [(.ref (A 5))])) _
    refine st37 _ ?_
    show Steps p.tables e below (T37.setTop (mkF m 4 #[.val (.ref (A 5))] [(.ref (A 17))])) _
    refine XS.ifnullNo X37.here hx rfl (hb hby own_d_prog_24_method_6_code_4) rfl ?_
    show Steps p.tables e below (T37.setTop (mkF m 7 #[.val (.ref (A 5))] [])) _
    refine XS.iconst X37.here hx rfl (hb hby own_d_prog_24_method_6_code_7) ?_
    show Steps p.tables e below (T37.setTop (mkF m 8 #[.val (.ref (A 5))] [(.int (1 : Int32))])) _
    refine XS.goto X37.here hx rfl (pc0 := 8) (pc' := 12) rfl (hb hby own_d_prog_24_method_6_code_8) (by decide) (by decide) ?_
    show Steps p.tables e below (T37.setTop (mkF m 12 #[.val (.ref (A 5))] [(.int (1 : Int32))])) _
    exact retN X37 hx (t := .boolean) Bd.returns (by simp) (hb hby own_d_prog_24_method_6_code_12) hr
  · show PQ (some (.int (1 : Int32))) h0 n0 _ T37.heap _
    rw [e37]
    exact ⟨rfl, N0, rfl⟩
theorem own_d_method_2_code_53 : decode method_2_code 53 = .ok (.iload_n 0, 1) := by decide +kernel
theorem own_d_method_2_code_54 : decode method_2_code 54 = .ok (.bipush 6, 2) := by decide +kernel
theorem own_d_method_2_code_56 : decode method_2_code 56 = .ok (.if_icmp .ne 7, 3) := by decide +kernel
theorem own_d_method_2_code_59 : decode method_2_code 59 = .ok (.getstatic 28, 3) := by decide +kernel
theorem own_d_method_2_code_62 : decode method_2_code 62 = .ok (.areturn, 1) := by decide +kernel
theorem own_ef_rm13 (m : MethodId) (p1 : Int32) (A : Nat → Addr) (K : Nat → ClassId)  : entryFrame m #[(.int (6 : Int32))] 1 = mkF m 0 #[.val (.int (6 : Int32))] [] := by first | (simp [entryFrame, mkF, argsToLocals, Value.category, maxLocals]; done) | rfl
set_option maxRecDepth 65536 in
set_option maxHeartbeats 40000000 in
theorem rm13 (l : Launch) (Z : State) (a0 : Array Value) (hw : ∀ d ∈ tables_1, d.before a0 Z = true) (ws : List Jvm.Cond) (h0 : Heap) (n0 : Nat) (p1 : Int32) (A : Nat → Addr) (K : Nat → ClassId)  (EN : own_St Z A K) (OL0 : Old Z n0 h0) :
    MetFree l own_m1 (head1 (Jvm.Cond.code own_m1 method_2_code 1 (some (.object "com/example/measurewright/measurewright/Relation")) :: ws) ({ frames := 0, cells := 0, slots := 0, locals := 0 } : Room)) (fun a U => a = #[(.int (6 : Int32))] ∧ Z.Warmed39 U.vm ∧ U.heap = h0) (fun _ _ _ _ _ => True) (fun _ U o U' => ∃ v L, o = .returned v ∧ (PQ (some (.ref (A 6))) h0 n0) v U'.heap L ∧ FrameEnd U o U' L ({ frames := 0, cells := 0, slots := 0, locals := 0 } : Room).cells ({ frames := 0, cells := 0, slots := 0, locals := 0 } : Room).slots) := by
  refine MetFree.of_bodySF (plainFor_of_name own_pn0) hisR ?_
  intro p e s m args below meth c s₁ Bd hml0 hP hK
  obtain ⟨rfl, hZ, hh⟩ := hP
  have hx := Bd.exec
  have hby := Bd.bytes
  have hml : c.maxLocals = 1 := hml0
  have hown : s.vm.findClass "com/example/measurewright/measurewright/RelationTakesQuantityPinLaw" = some m.cls := findClass_of_methodNamed Bd.named
  have hnm := (name_of_methodNamed Bd.named Bd.method).1
  have X0 : Stand p l e ({ frames := 0, cells := 0, slots := 0, locals := 0 } : Room) s m #[(.int (6 : Int32))] below meth c s₁ [] 0 0 := Stand.of_body Bd
  have e0 : s₁.heap = h0 := by rw [← hh, Bd.state]; rfl
  have N0 := Fr.nil n0
  have pre0 : ∀ t, Steps p.tables e below (s₁.setTop (mkF m 0 #[.val (.int (6 : Int32))] [])) t → Steps p.tables e below (s₁.setTop (entryFrame m #[(.int (6 : Int32))] 1)) t := fun t k => castTop (own_ef_rm13 m p1 A K ) k
  have KK0 : Keep h0 h0 [] := Keep.refl _ _
  obtain ⟨T39, X39, e39, st39⟩ := getS2 X0 hx hZ hown (host := "") (Or.inl (hw _ (List.mem_of_getElem? (i := 25) rfl))) Via.refl e0 (EN.2.1.2.2.2.2.1.ext OL0.2) (g := (mkF m 59 #[.val (.int (6 : Int32))] [])) rfl (hb hby own_d_method_2_code_59)
  obtain ⟨fs, hr, hrun, hended, hW, hsame⟩ := X39.leave (v := some (.ref (A 6))) (fun h => by rw [Bd.returns] at h; cases h)
  refine ⟨_, _, pre0 _ ?_, hrun, hended, _, _, rfl, ?_, ⟨_, rfl⟩, hW, hsame.mono (by decide) (by decide)⟩
  · show Steps p.tables e below (s₁.setTop (mkF m 0 #[.val (.int (6 : Int32))] [])) _
    refine XS.iloadN X0.here hx rfl (hb hby own_d_method_2_code_0) rfl ?_
    show Steps p.tables e below (s₁.setTop (mkF m 1 #[.val (.int (6 : Int32))] [(.int (6 : Int32))])) _
    refine XS.ifYes X0.here hx rfl (pc0 := 1) (pc' := 8) rfl (hb hby own_d_method_2_code_1) rfl ((if0 _ _).trans (feq (by decide : ¬ ((6 : Int32) = (0 : Int32)))).2) (by decide) (by decide) ?_
    show Steps p.tables e below (s₁.setTop (mkF m 8 #[.val (.int (6 : Int32))] [])) _
    refine XS.iloadN X0.here hx rfl (hb hby own_d_method_2_code_8) rfl ?_
    show Steps p.tables e below (s₁.setTop (mkF m 9 #[.val (.int (6 : Int32))] [(.int (6 : Int32))])) _
    refine XS.iconst X0.here hx rfl (hb hby own_d_method_2_code_9) ?_
    show Steps p.tables e below (s₁.setTop (mkF m 10 #[.val (.int (6 : Int32))] [(.int (1 : Int32)), (.int (6 : Int32))])) _
    refine XS.icmpYes X0.here hx rfl (pc0 := 10) (pc' := 17) rfl (hb hby own_d_method_2_code_10) rfl (feq (by decide : ¬ ((6 : Int32) = (1 : Int32)))).2 (by decide) (by decide) ?_
    show Steps p.tables e below (s₁.setTop (mkF m 17 #[.val (.int (6 : Int32))] [])) _
    refine XS.iloadN X0.here hx rfl (hb hby own_d_method_2_code_17) rfl ?_
    show Steps p.tables e below (s₁.setTop (mkF m 18 #[.val (.int (6 : Int32))] [(.int (6 : Int32))])) _
    refine XS.iconst X0.here hx rfl (hb hby own_d_method_2_code_18) ?_
    show Steps p.tables e below (s₁.setTop (mkF m 19 #[.val (.int (6 : Int32))] [(.int (2 : Int32)), (.int (6 : Int32))])) _
    refine XS.icmpYes X0.here hx rfl (pc0 := 19) (pc' := 26) rfl (hb hby own_d_method_2_code_19) rfl (feq (by decide : ¬ ((6 : Int32) = (2 : Int32)))).2 (by decide) (by decide) ?_
    show Steps p.tables e below (s₁.setTop (mkF m 26 #[.val (.int (6 : Int32))] [])) _
    refine XS.iloadN X0.here hx rfl (hb hby own_d_method_2_code_26) rfl ?_
    show Steps p.tables e below (s₁.setTop (mkF m 27 #[.val (.int (6 : Int32))] [(.int (6 : Int32))])) _
    refine XS.iconst X0.here hx rfl (hb hby own_d_method_2_code_27) ?_
    show Steps p.tables e below (s₁.setTop (mkF m 28 #[.val (.int (6 : Int32))] [(.int (3 : Int32)), (.int (6 : Int32))])) _
    refine XS.icmpYes X0.here hx rfl (pc0 := 28) (pc' := 35) rfl (hb hby own_d_method_2_code_28) rfl (feq (by decide : ¬ ((6 : Int32) = (3 : Int32)))).2 (by decide) (by decide) ?_
    show Steps p.tables e below (s₁.setTop (mkF m 35 #[.val (.int (6 : Int32))] [])) _
    refine XS.iloadN X0.here hx rfl (hb hby own_d_method_2_code_35) rfl ?_
    show Steps p.tables e below (s₁.setTop (mkF m 36 #[.val (.int (6 : Int32))] [(.int (6 : Int32))])) _
    refine XS.iconst X0.here hx rfl (hb hby own_d_method_2_code_36) ?_
    show Steps p.tables e below (s₁.setTop (mkF m 37 #[.val (.int (6 : Int32))] [(.int (4 : Int32)), (.int (6 : Int32))])) _
    refine XS.icmpYes X0.here hx rfl (pc0 := 37) (pc' := 44) rfl (hb hby own_d_method_2_code_37) rfl (feq (by decide : ¬ ((6 : Int32) = (4 : Int32)))).2 (by decide) (by decide) ?_
    show Steps p.tables e below (s₁.setTop (mkF m 44 #[.val (.int (6 : Int32))] [])) _
    refine XS.iloadN X0.here hx rfl (hb hby own_d_method_2_code_44) rfl ?_
    show Steps p.tables e below (s₁.setTop (mkF m 45 #[.val (.int (6 : Int32))] [(.int (6 : Int32))])) _
    refine XS.iconst X0.here hx rfl (hb hby own_d_method_2_code_45) ?_
    show Steps p.tables e below (s₁.setTop (mkF m 46 #[.val (.int (6 : Int32))] [(.int (5 : Int32)), (.int (6 : Int32))])) _
    refine XS.icmpYes X0.here hx rfl (pc0 := 46) (pc' := 53) rfl (hb hby own_d_method_2_code_46) rfl (feq (by decide : ¬ ((6 : Int32) = (5 : Int32)))).2 (by decide) (by decide) ?_
    show Steps p.tables e below (s₁.setTop (mkF m 53 #[.val (.int (6 : Int32))] [])) _
    refine XS.iloadN X0.here hx rfl (hb hby own_d_method_2_code_53) rfl ?_
    show Steps p.tables e below (s₁.setTop (mkF m 54 #[.val (.int (6 : Int32))] [(.int (6 : Int32))])) _
    refine XS.bipush X0.here hx rfl (hb hby own_d_method_2_code_54) ?_
    show Steps p.tables e below (s₁.setTop (mkF m 56 #[.val (.int (6 : Int32))] [(.int (6 : Int32)), (.int (6 : Int32))])) _
    refine XS.icmpNo X0.here hx rfl (hb hby own_d_method_2_code_56) rfl (teq (by decide : (6 : Int32) = (6 : Int32))).2 ?_
    show Steps p.tables e below (s₁.setTop (mkF m 59 #[.val (.int (6 : Int32))] [])) _
    refine st39 _ ?_
    show Steps p.tables e below (T39.setTop (mkF m 62 #[.val (.int (6 : Int32))] [(.ref (A 6))])) _
    exact retOut X39 hx Bd.returns rfl (Or.inr (Or.inr (Or.inr (Or.inr ⟨rfl, rfl, rfl⟩)))) (hb hby own_d_method_2_code_62) hr
  · show PQ (some (.ref (A 6))) h0 n0 _ T39.heap _
    rw [e39]
    exact ⟨rfl, N0, rfl⟩
theorem own_ef_rm14 (m : MethodId) (p1 : Int32) (A : Nat → Addr) (K : Nat → ClassId)  : entryFrame m #[(.ref (A 6))] 1 = mkF m 0 #[.val (.ref (A 6))] [] := by first | (simp [entryFrame, mkF, argsToLocals, Value.category, maxLocals]; done) | rfl
set_option maxRecDepth 65536 in
set_option maxHeartbeats 40000000 in
theorem rm14 (l : Launch) (Z : State) (a0 : Array Value) (hw : ∀ d ∈ tables_1, d.before a0 Z = true) (ws : List Jvm.Cond) (h0 : Heap) (n0 : Nat) (p1 : Int32) (A : Nat → Addr) (K : Nat → ClassId)  (EN : own_St Z A K) (OL0 : Old Z n0 h0) :
    MetFree l own_m0 (head1 (Jvm.Cond.code own_m0 prog_24_method_6_code 1 (some .boolean) :: ws) ({ frames := 0, cells := 0, slots := 0, locals := 0 } : Room)) (fun a U => a = #[(.ref (A 6))] ∧ Z.Warmed39 U.vm ∧ U.heap = h0) (fun _ _ _ _ _ => True) (fun _ U o U' => ∃ v L, o = .returned v ∧ (PQ (some (.int (1 : Int32))) h0 n0) v U'.heap L ∧ FrameEnd U o U' L ({ frames := 0, cells := 0, slots := 0, locals := 0 } : Room).cells ({ frames := 0, cells := 0, slots := 0, locals := 0 } : Room).slots) := by
  refine MetFree.of_bodySF (plainFor_of_name own_pn1) hisR ?_
  intro p e s m args below meth c s₁ Bd hml0 hP hK
  obtain ⟨rfl, hZ, hh⟩ := hP
  have hx := Bd.exec
  have hby := Bd.bytes
  have hml : c.maxLocals = 1 := hml0
  have hown : s.vm.findClass "com/example/measurewright/measurewright/Relation" = some m.cls := findClass_of_methodNamed Bd.named
  have hnm := (name_of_methodNamed Bd.named Bd.method).1
  have X0 : Stand p l e ({ frames := 0, cells := 0, slots := 0, locals := 0 } : Room) s m #[(.ref (A 6))] below meth c s₁ [] 0 0 := Stand.of_body Bd
  have e0 : s₁.heap = h0 := by rw [← hh, Bd.state]; rfl
  have N0 := Fr.nil n0
  have pre0 : ∀ t, Steps p.tables e below (s₁.setTop (mkF m 0 #[.val (.ref (A 6))] [])) t → Steps p.tables e below (s₁.setTop (entryFrame m #[(.ref (A 6))] 1)) t := fun t k => castTop (own_ef_rm14 m p1 A K ) k
  have KK0 : Keep h0 h0 [] := Keep.refl _ _
  obtain ⟨T43, X43, e43, st43⟩ := getF X0 hx hZ hown (host := "") (Or.inl (hw _ (List.mem_of_getElem? (i := 17) rfl))) Via.refl e0 (EN.2.2.2.2.1.2.2.2.2.2.2.1.ext OL0.2) (g := (mkF m 1 #[.val (.ref (A 6))] [(.ref (A 6))])) rfl rfl (hb hby own_d_prog_24_method_6_code_1)
  obtain ⟨fs, hr, hrun, hended, hW, hsame⟩ := X43.leave (v := some (.int (1 : Int32))) (fun h => by rw [Bd.returns] at h; cases h)
  refine ⟨_, _, pre0 _ ?_, hrun, hended, _, _, rfl, ?_, ⟨_, rfl⟩, hW, hsame.mono (by decide) (by decide)⟩
  · show Steps p.tables e below (s₁.setTop (mkF m 0 #[.val (.ref (A 6))] [])) _
    refine XS.aloadN X0.here hx rfl (hb hby own_d_prog_24_method_6_code_0) rfl rfl ?_
    show Steps p.tables e below (s₁.setTop (mkF m 1 #[.val (.ref (A 6))] [(.ref (A 6))])) _
    refine st43 _ ?_
    show Steps p.tables e below (T43.setTop (mkF m 4 #[.val (.ref (A 6))] [(.ref (A 19))])) _
    refine XS.ifnullNo X43.here hx rfl (hb hby own_d_prog_24_method_6_code_4) rfl ?_
    show Steps p.tables e below (T43.setTop (mkF m 7 #[.val (.ref (A 6))] [])) _
    refine XS.iconst X43.here hx rfl (hb hby own_d_prog_24_method_6_code_7) ?_
    show Steps p.tables e below (T43.setTop (mkF m 8 #[.val (.ref (A 6))] [(.int (1 : Int32))])) _
    refine XS.goto X43.here hx rfl (pc0 := 8) (pc' := 12) rfl (hb hby own_d_prog_24_method_6_code_8) (by decide) (by decide) ?_
    show Steps p.tables e below (T43.setTop (mkF m 12 #[.val (.ref (A 6))] [(.int (1 : Int32))])) _
    exact retN X43 hx (t := .boolean) Bd.returns (by simp) (hb hby own_d_prog_24_method_6_code_12) hr
  · show PQ (some (.int (1 : Int32))) h0 n0 _ T43.heap _
    rw [e43]
    exact ⟨rfl, N0, rfl⟩
theorem own_d_method_2_code_63 : decode method_2_code 63 = .ok (.iload_n 0, 1) := by decide +kernel
theorem own_d_method_2_code_64 : decode method_2_code 64 = .ok (.bipush 7, 2) := by decide +kernel
theorem own_d_method_2_code_66 : decode method_2_code 66 = .ok (.if_icmp .ne 7, 3) := by decide +kernel
theorem own_d_method_2_code_69 : decode method_2_code 69 = .ok (.getstatic 31, 3) := by decide +kernel
theorem own_d_method_2_code_72 : decode method_2_code 72 = .ok (.areturn, 1) := by decide +kernel
theorem own_ef_rm15 (m : MethodId) (p1 : Int32) (A : Nat → Addr) (K : Nat → ClassId)  : entryFrame m #[(.int (7 : Int32))] 1 = mkF m 0 #[.val (.int (7 : Int32))] [] := by first | (simp [entryFrame, mkF, argsToLocals, Value.category, maxLocals]; done) | rfl
set_option maxRecDepth 65536 in
set_option maxHeartbeats 40000000 in
theorem rm15 (l : Launch) (Z : State) (a0 : Array Value) (hw : ∀ d ∈ tables_1, d.before a0 Z = true) (ws : List Jvm.Cond) (h0 : Heap) (n0 : Nat) (p1 : Int32) (A : Nat → Addr) (K : Nat → ClassId)  (EN : own_St Z A K) (OL0 : Old Z n0 h0) :
    MetFree l own_m1 (head1 (Jvm.Cond.code own_m1 method_2_code 1 (some (.object "com/example/measurewright/measurewright/Relation")) :: ws) ({ frames := 0, cells := 0, slots := 0, locals := 0 } : Room)) (fun a U => a = #[(.int (7 : Int32))] ∧ Z.Warmed39 U.vm ∧ U.heap = h0) (fun _ _ _ _ _ => True) (fun _ U o U' => ∃ v L, o = .returned v ∧ (PQ (some (.ref (A 7))) h0 n0) v U'.heap L ∧ FrameEnd U o U' L ({ frames := 0, cells := 0, slots := 0, locals := 0 } : Room).cells ({ frames := 0, cells := 0, slots := 0, locals := 0 } : Room).slots) := by
  refine MetFree.of_bodySF (plainFor_of_name own_pn0) hisR ?_
  intro p e s m args below meth c s₁ Bd hml0 hP hK
  obtain ⟨rfl, hZ, hh⟩ := hP
  have hx := Bd.exec
  have hby := Bd.bytes
  have hml : c.maxLocals = 1 := hml0
  have hown : s.vm.findClass "com/example/measurewright/measurewright/RelationTakesQuantityPinLaw" = some m.cls := findClass_of_methodNamed Bd.named
  have hnm := (name_of_methodNamed Bd.named Bd.method).1
  have X0 : Stand p l e ({ frames := 0, cells := 0, slots := 0, locals := 0 } : Room) s m #[(.int (7 : Int32))] below meth c s₁ [] 0 0 := Stand.of_body Bd
  have e0 : s₁.heap = h0 := by rw [← hh, Bd.state]; rfl
  have N0 := Fr.nil n0
  have pre0 : ∀ t, Steps p.tables e below (s₁.setTop (mkF m 0 #[.val (.int (7 : Int32))] [])) t → Steps p.tables e below (s₁.setTop (entryFrame m #[(.int (7 : Int32))] 1)) t := fun t k => castTop (own_ef_rm15 m p1 A K ) k
  have KK0 : Keep h0 h0 [] := Keep.refl _ _
  obtain ⟨T45, X45, e45, st45⟩ := getS2 X0 hx hZ hown (host := "") (Or.inl (hw _ (List.mem_of_getElem? (i := 27) rfl))) Via.refl e0 (EN.2.1.2.2.2.2.2.2.1.ext OL0.2) (g := (mkF m 69 #[.val (.int (7 : Int32))] [])) rfl (hb hby own_d_method_2_code_69)
  obtain ⟨fs, hr, hrun, hended, hW, hsame⟩ := X45.leave (v := some (.ref (A 7))) (fun h => by rw [Bd.returns] at h; cases h)
  refine ⟨_, _, pre0 _ ?_, hrun, hended, _, _, rfl, ?_, ⟨_, rfl⟩, hW, hsame.mono (by decide) (by decide)⟩
  · show Steps p.tables e below (s₁.setTop (mkF m 0 #[.val (.int (7 : Int32))] [])) _
    refine XS.iloadN X0.here hx rfl (hb hby own_d_method_2_code_0) rfl ?_
    show Steps p.tables e below (s₁.setTop (mkF m 1 #[.val (.int (7 : Int32))] [(.int (7 : Int32))])) _
    refine XS.ifYes X0.here hx rfl (pc0 := 1) (pc' := 8) rfl (hb hby own_d_method_2_code_1) rfl ((if0 _ _).trans (feq (by decide : ¬ ((7 : Int32) = (0 : Int32)))).2) (by decide) (by decide) ?_
    show Steps p.tables e below (s₁.setTop (mkF m 8 #[.val (.int (7 : Int32))] [])) _
    refine XS.iloadN X0.here hx rfl (hb hby own_d_method_2_code_8) rfl ?_
    show Steps p.tables e below (s₁.setTop (mkF m 9 #[.val (.int (7 : Int32))] [(.int (7 : Int32))])) _
    refine XS.iconst X0.here hx rfl (hb hby own_d_method_2_code_9) ?_
    show Steps p.tables e below (s₁.setTop (mkF m 10 #[.val (.int (7 : Int32))] [(.int (1 : Int32)), (.int (7 : Int32))])) _
    refine XS.icmpYes X0.here hx rfl (pc0 := 10) (pc' := 17) rfl (hb hby own_d_method_2_code_10) rfl (feq (by decide : ¬ ((7 : Int32) = (1 : Int32)))).2 (by decide) (by decide) ?_
    show Steps p.tables e below (s₁.setTop (mkF m 17 #[.val (.int (7 : Int32))] [])) _
    refine XS.iloadN X0.here hx rfl (hb hby own_d_method_2_code_17) rfl ?_
    show Steps p.tables e below (s₁.setTop (mkF m 18 #[.val (.int (7 : Int32))] [(.int (7 : Int32))])) _
    refine XS.iconst X0.here hx rfl (hb hby own_d_method_2_code_18) ?_
    show Steps p.tables e below (s₁.setTop (mkF m 19 #[.val (.int (7 : Int32))] [(.int (2 : Int32)), (.int (7 : Int32))])) _
    refine XS.icmpYes X0.here hx rfl (pc0 := 19) (pc' := 26) rfl (hb hby own_d_method_2_code_19) rfl (feq (by decide : ¬ ((7 : Int32) = (2 : Int32)))).2 (by decide) (by decide) ?_
    show Steps p.tables e below (s₁.setTop (mkF m 26 #[.val (.int (7 : Int32))] [])) _
    refine XS.iloadN X0.here hx rfl (hb hby own_d_method_2_code_26) rfl ?_
    show Steps p.tables e below (s₁.setTop (mkF m 27 #[.val (.int (7 : Int32))] [(.int (7 : Int32))])) _
    refine XS.iconst X0.here hx rfl (hb hby own_d_method_2_code_27) ?_
    show Steps p.tables e below (s₁.setTop (mkF m 28 #[.val (.int (7 : Int32))] [(.int (3 : Int32)), (.int (7 : Int32))])) _
    refine XS.icmpYes X0.here hx rfl (pc0 := 28) (pc' := 35) rfl (hb hby own_d_method_2_code_28) rfl (feq (by decide : ¬ ((7 : Int32) = (3 : Int32)))).2 (by decide) (by decide) ?_
    show Steps p.tables e below (s₁.setTop (mkF m 35 #[.val (.int (7 : Int32))] [])) _
    refine XS.iloadN X0.here hx rfl (hb hby own_d_method_2_code_35) rfl ?_
    show Steps p.tables e below (s₁.setTop (mkF m 36 #[.val (.int (7 : Int32))] [(.int (7 : Int32))])) _
    refine XS.iconst X0.here hx rfl (hb hby own_d_method_2_code_36) ?_
    show Steps p.tables e below (s₁.setTop (mkF m 37 #[.val (.int (7 : Int32))] [(.int (4 : Int32)), (.int (7 : Int32))])) _
    refine XS.icmpYes X0.here hx rfl (pc0 := 37) (pc' := 44) rfl (hb hby own_d_method_2_code_37) rfl (feq (by decide : ¬ ((7 : Int32) = (4 : Int32)))).2 (by decide) (by decide) ?_
    show Steps p.tables e below (s₁.setTop (mkF m 44 #[.val (.int (7 : Int32))] [])) _
    refine XS.iloadN X0.here hx rfl (hb hby own_d_method_2_code_44) rfl ?_
    show Steps p.tables e below (s₁.setTop (mkF m 45 #[.val (.int (7 : Int32))] [(.int (7 : Int32))])) _
    refine XS.iconst X0.here hx rfl (hb hby own_d_method_2_code_45) ?_
    show Steps p.tables e below (s₁.setTop (mkF m 46 #[.val (.int (7 : Int32))] [(.int (5 : Int32)), (.int (7 : Int32))])) _
    refine XS.icmpYes X0.here hx rfl (pc0 := 46) (pc' := 53) rfl (hb hby own_d_method_2_code_46) rfl (feq (by decide : ¬ ((7 : Int32) = (5 : Int32)))).2 (by decide) (by decide) ?_
    show Steps p.tables e below (s₁.setTop (mkF m 53 #[.val (.int (7 : Int32))] [])) _
    refine XS.iloadN X0.here hx rfl (hb hby own_d_method_2_code_53) rfl ?_
    show Steps p.tables e below (s₁.setTop (mkF m 54 #[.val (.int (7 : Int32))] [(.int (7 : Int32))])) _
    refine XS.bipush X0.here hx rfl (hb hby own_d_method_2_code_54) ?_
    show Steps p.tables e below (s₁.setTop (mkF m 56 #[.val (.int (7 : Int32))] [(.int (6 : Int32)), (.int (7 : Int32))])) _
    refine XS.icmpYes X0.here hx rfl (pc0 := 56) (pc' := 63) rfl (hb hby own_d_method_2_code_56) rfl (feq (by decide : ¬ ((7 : Int32) = (6 : Int32)))).2 (by decide) (by decide) ?_
    show Steps p.tables e below (s₁.setTop (mkF m 63 #[.val (.int (7 : Int32))] [])) _
    refine XS.iloadN X0.here hx rfl (hb hby own_d_method_2_code_63) rfl ?_
    show Steps p.tables e below (s₁.setTop (mkF m 64 #[.val (.int (7 : Int32))] [(.int (7 : Int32))])) _
    refine XS.bipush X0.here hx rfl (hb hby own_d_method_2_code_64) ?_
    show Steps p.tables e below (s₁.setTop (mkF m 66 #[.val (.int (7 : Int32))] [(.int (7 : Int32)), (.int (7 : Int32))])) _
    refine XS.icmpNo X0.here hx rfl (hb hby own_d_method_2_code_66) rfl (teq (by decide : (7 : Int32) = (7 : Int32))).2 ?_
    show Steps p.tables e below (s₁.setTop (mkF m 69 #[.val (.int (7 : Int32))] [])) _
    refine st45 _ ?_
    show Steps p.tables e below (T45.setTop (mkF m 72 #[.val (.int (7 : Int32))] [(.ref (A 7))])) _
    exact retOut X45 hx Bd.returns rfl (Or.inr (Or.inr (Or.inr (Or.inr ⟨rfl, rfl, rfl⟩)))) (hb hby own_d_method_2_code_72) hr
  · show PQ (some (.ref (A 7))) h0 n0 _ T45.heap _
    rw [e45]
    exact ⟨rfl, N0, rfl⟩
theorem own_ef_rm16 (m : MethodId) (p1 : Int32) (A : Nat → Addr) (K : Nat → ClassId)  : entryFrame m #[(.ref (A 7))] 1 = mkF m 0 #[.val (.ref (A 7))] [] := by first | (simp [entryFrame, mkF, argsToLocals, Value.category, maxLocals]; done) | rfl
set_option maxRecDepth 65536 in
set_option maxHeartbeats 40000000 in
theorem rm16 (l : Launch) (Z : State) (a0 : Array Value) (hw : ∀ d ∈ tables_1, d.before a0 Z = true) (ws : List Jvm.Cond) (h0 : Heap) (n0 : Nat) (p1 : Int32) (A : Nat → Addr) (K : Nat → ClassId)  (EN : own_St Z A K) (OL0 : Old Z n0 h0) :
    MetFree l own_m0 (head1 (Jvm.Cond.code own_m0 prog_24_method_6_code 1 (some .boolean) :: ws) ({ frames := 0, cells := 0, slots := 0, locals := 0 } : Room)) (fun a U => a = #[(.ref (A 7))] ∧ Z.Warmed39 U.vm ∧ U.heap = h0) (fun _ _ _ _ _ => True) (fun _ U o U' => ∃ v L, o = .returned v ∧ (PQ (some (.int (1 : Int32))) h0 n0) v U'.heap L ∧ FrameEnd U o U' L ({ frames := 0, cells := 0, slots := 0, locals := 0 } : Room).cells ({ frames := 0, cells := 0, slots := 0, locals := 0 } : Room).slots) := by
  refine MetFree.of_bodySF (plainFor_of_name own_pn1) hisR ?_
  intro p e s m args below meth c s₁ Bd hml0 hP hK
  obtain ⟨rfl, hZ, hh⟩ := hP
  have hx := Bd.exec
  have hby := Bd.bytes
  have hml : c.maxLocals = 1 := hml0
  have hown : s.vm.findClass "com/example/measurewright/measurewright/Relation" = some m.cls := findClass_of_methodNamed Bd.named
  have hnm := (name_of_methodNamed Bd.named Bd.method).1
  have X0 : Stand p l e ({ frames := 0, cells := 0, slots := 0, locals := 0 } : Room) s m #[(.ref (A 7))] below meth c s₁ [] 0 0 := Stand.of_body Bd
  have e0 : s₁.heap = h0 := by rw [← hh, Bd.state]; rfl
  have N0 := Fr.nil n0
  have pre0 : ∀ t, Steps p.tables e below (s₁.setTop (mkF m 0 #[.val (.ref (A 7))] [])) t → Steps p.tables e below (s₁.setTop (entryFrame m #[(.ref (A 7))] 1)) t := fun t k => castTop (own_ef_rm16 m p1 A K ) k
  have KK0 : Keep h0 h0 [] := Keep.refl _ _
  obtain ⟨T49, X49, e49, st49⟩ := getF X0 hx hZ hown (host := "") (Or.inl (hw _ (List.mem_of_getElem? (i := 17) rfl))) Via.refl e0 (EN.2.2.2.2.2.1.1.ext OL0.2) (g := (mkF m 1 #[.val (.ref (A 7))] [(.ref (A 7))])) rfl rfl (hb hby own_d_prog_24_method_6_code_1)
  obtain ⟨fs, hr, hrun, hended, hW, hsame⟩ := X49.leave (v := some (.int (1 : Int32))) (fun h => by rw [Bd.returns] at h; cases h)
  refine ⟨_, _, pre0 _ ?_, hrun, hended, _, _, rfl, ?_, ⟨_, rfl⟩, hW, hsame.mono (by decide) (by decide)⟩
  · show Steps p.tables e below (s₁.setTop (mkF m 0 #[.val (.ref (A 7))] [])) _
    refine XS.aloadN X0.here hx rfl (hb hby own_d_prog_24_method_6_code_0) rfl rfl ?_
    show Steps p.tables e below (s₁.setTop (mkF m 1 #[.val (.ref (A 7))] [(.ref (A 7))])) _
    refine st49 _ ?_
    show Steps p.tables e below (T49.setTop (mkF m 4 #[.val (.ref (A 7))] [(.ref (A 20))])) _
    refine XS.ifnullNo X49.here hx rfl (hb hby own_d_prog_24_method_6_code_4) rfl ?_
    show Steps p.tables e below (T49.setTop (mkF m 7 #[.val (.ref (A 7))] [])) _
    refine XS.iconst X49.here hx rfl (hb hby own_d_prog_24_method_6_code_7) ?_
    show Steps p.tables e below (T49.setTop (mkF m 8 #[.val (.ref (A 7))] [(.int (1 : Int32))])) _
    refine XS.goto X49.here hx rfl (pc0 := 8) (pc' := 12) rfl (hb hby own_d_prog_24_method_6_code_8) (by decide) (by decide) ?_
    show Steps p.tables e below (T49.setTop (mkF m 12 #[.val (.ref (A 7))] [(.int (1 : Int32))])) _
    exact retN X49 hx (t := .boolean) Bd.returns (by simp) (hb hby own_d_prog_24_method_6_code_12) hr
  · show PQ (some (.int (1 : Int32))) h0 n0 _ T49.heap _
    rw [e49]
    exact ⟨rfl, N0, rfl⟩
theorem own_d_method_2_code_73 : decode method_2_code 73 = .ok (.iload_n 0, 1) := by decide +kernel
theorem own_d_method_2_code_74 : decode method_2_code 74 = .ok (.bipush 8, 2) := by decide +kernel
theorem own_d_method_2_code_76 : decode method_2_code 76 = .ok (.if_icmp .ne 7, 3) := by decide +kernel
theorem own_d_method_2_code_79 : decode method_2_code 79 = .ok (.getstatic 34, 3) := by decide +kernel
theorem own_d_method_2_code_82 : decode method_2_code 82 = .ok (.areturn, 1) := by decide +kernel
theorem own_ef_rm17 (m : MethodId) (p1 : Int32) (A : Nat → Addr) (K : Nat → ClassId)  : entryFrame m #[(.int (8 : Int32))] 1 = mkF m 0 #[.val (.int (8 : Int32))] [] := by first | (simp [entryFrame, mkF, argsToLocals, Value.category, maxLocals]; done) | rfl
set_option maxRecDepth 65536 in
set_option maxHeartbeats 40000000 in
theorem rm17 (l : Launch) (Z : State) (a0 : Array Value) (hw : ∀ d ∈ tables_1, d.before a0 Z = true) (ws : List Jvm.Cond) (h0 : Heap) (n0 : Nat) (p1 : Int32) (A : Nat → Addr) (K : Nat → ClassId)  (EN : own_St Z A K) (OL0 : Old Z n0 h0) :
    MetFree l own_m1 (head1 (Jvm.Cond.code own_m1 method_2_code 1 (some (.object "com/example/measurewright/measurewright/Relation")) :: ws) ({ frames := 0, cells := 0, slots := 0, locals := 0 } : Room)) (fun a U => a = #[(.int (8 : Int32))] ∧ Z.Warmed39 U.vm ∧ U.heap = h0) (fun _ _ _ _ _ => True) (fun _ U o U' => ∃ v L, o = .returned v ∧ (PQ (some (.ref (A 8))) h0 n0) v U'.heap L ∧ FrameEnd U o U' L ({ frames := 0, cells := 0, slots := 0, locals := 0 } : Room).cells ({ frames := 0, cells := 0, slots := 0, locals := 0 } : Room).slots) := by
  refine MetFree.of_bodySF (plainFor_of_name own_pn0) hisR ?_
  intro p e s m args below meth c s₁ Bd hml0 hP hK
  obtain ⟨rfl, hZ, hh⟩ := hP
  have hx := Bd.exec
  have hby := Bd.bytes
  have hml : c.maxLocals = 1 := hml0
  have hown : s.vm.findClass "com/example/measurewright/measurewright/RelationTakesQuantityPinLaw" = some m.cls := findClass_of_methodNamed Bd.named
  have hnm := (name_of_methodNamed Bd.named Bd.method).1
  have X0 : Stand p l e ({ frames := 0, cells := 0, slots := 0, locals := 0 } : Room) s m #[(.int (8 : Int32))] below meth c s₁ [] 0 0 := Stand.of_body Bd
  have e0 : s₁.heap = h0 := by rw [← hh, Bd.state]; rfl
  have N0 := Fr.nil n0
  have pre0 : ∀ t, Steps p.tables e below (s₁.setTop (mkF m 0 #[.val (.int (8 : Int32))] [])) t → Steps p.tables e below (s₁.setTop (entryFrame m #[(.int (8 : Int32))] 1)) t := fun t k => castTop (own_ef_rm17 m p1 A K ) k
  have KK0 : Keep h0 h0 [] := Keep.refl _ _
  obtain ⟨T51, X51, e51, st51⟩ := getS2 X0 hx hZ hown (host := "") (Or.inl (hw _ (List.mem_of_getElem? (i := 33) rfl))) Via.refl e0 (EN.2.2.1.1.ext OL0.2) (g := (mkF m 79 #[.val (.int (8 : Int32))] [])) rfl (hb hby own_d_method_2_code_79)
  obtain ⟨fs, hr, hrun, hended, hW, hsame⟩ := X51.leave (v := some (.ref (A 8))) (fun h => by rw [Bd.returns] at h; cases h)
  refine ⟨_, _, pre0 _ ?_, hrun, hended, _, _, rfl, ?_, ⟨_, rfl⟩, hW, hsame.mono (by decide) (by decide)⟩
  · show Steps p.tables e below (s₁.setTop (mkF m 0 #[.val (.int (8 : Int32))] [])) _
    refine XS.iloadN X0.here hx rfl (hb hby own_d_method_2_code_0) rfl ?_
    show Steps p.tables e below (s₁.setTop (mkF m 1 #[.val (.int (8 : Int32))] [(.int (8 : Int32))])) _
    refine XS.ifYes X0.here hx rfl (pc0 := 1) (pc' := 8) rfl (hb hby own_d_method_2_code_1) rfl ((if0 _ _).trans (feq (by decide : ¬ ((8 : Int32) = (0 : Int32)))).2) (by decide) (by decide) ?_
    show Steps p.tables e below (s₁.setTop (mkF m 8 #[.val (.int (8 : Int32))] [])) _
    refine XS.iloadN X0.here hx rfl (hb hby own_d_method_2_code_8) rfl ?_
    show Steps p.tables e below (s₁.setTop (mkF m 9 #[.val (.int (8 : Int32))] [(.int (8 : Int32))])) _
    refine XS.iconst X0.here hx rfl (hb hby own_d_method_2_code_9) ?_
    show Steps p.tables e below (s₁.setTop (mkF m 10 #[.val (.int (8 : Int32))] [(.int (1 : Int32)), (.int (8 : Int32))])) _
    refine XS.icmpYes X0.here hx rfl (pc0 := 10) (pc' := 17) rfl (hb hby own_d_method_2_code_10) rfl (feq (by decide : ¬ ((8 : Int32) = (1 : Int32)))).2 (by decide) (by decide) ?_
    show Steps p.tables e below (s₁.setTop (mkF m 17 #[.val (.int (8 : Int32))] [])) _
    refine XS.iloadN X0.here hx rfl (hb hby own_d_method_2_code_17) rfl ?_
    show Steps p.tables e below (s₁.setTop (mkF m 18 #[.val (.int (8 : Int32))] [(.int (8 : Int32))])) _
    refine XS.iconst X0.here hx rfl (hb hby own_d_method_2_code_18) ?_
    show Steps p.tables e below (s₁.setTop (mkF m 19 #[.val (.int (8 : Int32))] [(.int (2 : Int32)), (.int (8 : Int32))])) _
    refine XS.icmpYes X0.here hx rfl (pc0 := 19) (pc' := 26) rfl (hb hby own_d_method_2_code_19) rfl (feq (by decide : ¬ ((8 : Int32) = (2 : Int32)))).2 (by decide) (by decide) ?_
    show Steps p.tables e below (s₁.setTop (mkF m 26 #[.val (.int (8 : Int32))] [])) _
    refine XS.iloadN X0.here hx rfl (hb hby own_d_method_2_code_26) rfl ?_
    show Steps p.tables e below (s₁.setTop (mkF m 27 #[.val (.int (8 : Int32))] [(.int (8 : Int32))])) _
    refine XS.iconst X0.here hx rfl (hb hby own_d_method_2_code_27) ?_
    show Steps p.tables e below (s₁.setTop (mkF m 28 #[.val (.int (8 : Int32))] [(.int (3 : Int32)), (.int (8 : Int32))])) _
    refine XS.icmpYes X0.here hx rfl (pc0 := 28) (pc' := 35) rfl (hb hby own_d_method_2_code_28) rfl (feq (by decide : ¬ ((8 : Int32) = (3 : Int32)))).2 (by decide) (by decide) ?_
    show Steps p.tables e below (s₁.setTop (mkF m 35 #[.val (.int (8 : Int32))] [])) _
    refine XS.iloadN X0.here hx rfl (hb hby own_d_method_2_code_35) rfl ?_
    show Steps p.tables e below (s₁.setTop (mkF m 36 #[.val (.int (8 : Int32))] [(.int (8 : Int32))])) _
    refine XS.iconst X0.here hx rfl (hb hby own_d_method_2_code_36) ?_
    show Steps p.tables e below (s₁.setTop (mkF m 37 #[.val (.int (8 : Int32))] [(.int (4 : Int32)), (.int (8 : Int32))])) _
    refine XS.icmpYes X0.here hx rfl (pc0 := 37) (pc' := 44) rfl (hb hby own_d_method_2_code_37) rfl (feq (by decide : ¬ ((8 : Int32) = (4 : Int32)))).2 (by decide) (by decide) ?_
    show Steps p.tables e below (s₁.setTop (mkF m 44 #[.val (.int (8 : Int32))] [])) _
    refine XS.iloadN X0.here hx rfl (hb hby own_d_method_2_code_44) rfl ?_
    show Steps p.tables e below (s₁.setTop (mkF m 45 #[.val (.int (8 : Int32))] [(.int (8 : Int32))])) _
    refine XS.iconst X0.here hx rfl (hb hby own_d_method_2_code_45) ?_
    show Steps p.tables e below (s₁.setTop (mkF m 46 #[.val (.int (8 : Int32))] [(.int (5 : Int32)), (.int (8 : Int32))])) _
    refine XS.icmpYes X0.here hx rfl (pc0 := 46) (pc' := 53) rfl (hb hby own_d_method_2_code_46) rfl (feq (by decide : ¬ ((8 : Int32) = (5 : Int32)))).2 (by decide) (by decide) ?_
    show Steps p.tables e below (s₁.setTop (mkF m 53 #[.val (.int (8 : Int32))] [])) _
    refine XS.iloadN X0.here hx rfl (hb hby own_d_method_2_code_53) rfl ?_
    show Steps p.tables e below (s₁.setTop (mkF m 54 #[.val (.int (8 : Int32))] [(.int (8 : Int32))])) _
    refine XS.bipush X0.here hx rfl (hb hby own_d_method_2_code_54) ?_
    show Steps p.tables e below (s₁.setTop (mkF m 56 #[.val (.int (8 : Int32))] [(.int (6 : Int32)), (.int (8 : Int32))])) _
    refine XS.icmpYes X0.here hx rfl (pc0 := 56) (pc' := 63) rfl (hb hby own_d_method_2_code_56) rfl (feq (by decide : ¬ ((8 : Int32) = (6 : Int32)))).2 (by decide) (by decide) ?_
    show Steps p.tables e below (s₁.setTop (mkF m 63 #[.val (.int (8 : Int32))] [])) _
    refine XS.iloadN X0.here hx rfl (hb hby own_d_method_2_code_63) rfl ?_
    show Steps p.tables e below (s₁.setTop (mkF m 64 #[.val (.int (8 : Int32))] [(.int (8 : Int32))])) _
    refine XS.bipush X0.here hx rfl (hb hby own_d_method_2_code_64) ?_
    show Steps p.tables e below (s₁.setTop (mkF m 66 #[.val (.int (8 : Int32))] [(.int (7 : Int32)), (.int (8 : Int32))])) _
    refine XS.icmpYes X0.here hx rfl (pc0 := 66) (pc' := 73) rfl (hb hby own_d_method_2_code_66) rfl (feq (by decide : ¬ ((8 : Int32) = (7 : Int32)))).2 (by decide) (by decide) ?_
    show Steps p.tables e below (s₁.setTop (mkF m 73 #[.val (.int (8 : Int32))] [])) _
    refine XS.iloadN X0.here hx rfl (hb hby own_d_method_2_code_73) rfl ?_
    show Steps p.tables e below (s₁.setTop (mkF m 74 #[.val (.int (8 : Int32))] [(.int (8 : Int32))])) _
    refine XS.bipush X0.here hx rfl (hb hby own_d_method_2_code_74) ?_
    show Steps p.tables e below (s₁.setTop (mkF m 76 #[.val (.int (8 : Int32))] [(.int (8 : Int32)), (.int (8 : Int32))])) _
    refine XS.icmpNo X0.here hx rfl (hb hby own_d_method_2_code_76) rfl (teq (by decide : (8 : Int32) = (8 : Int32))).2 ?_
    show Steps p.tables e below (s₁.setTop (mkF m 79 #[.val (.int (8 : Int32))] [])) _
    refine st51 _ ?_
    show Steps p.tables e below (T51.setTop (mkF m 82 #[.val (.int (8 : Int32))] [(.ref (A 8))])) _
    exact retOut X51 hx Bd.returns rfl (Or.inr (Or.inr (Or.inr (Or.inr ⟨rfl, rfl, rfl⟩)))) (hb hby own_d_method_2_code_82) hr
  · show PQ (some (.ref (A 8))) h0 n0 _ T51.heap _
    rw [e51]
    exact ⟨rfl, N0, rfl⟩
theorem own_ef_rm18 (m : MethodId) (p1 : Int32) (A : Nat → Addr) (K : Nat → ClassId)  : entryFrame m #[(.ref (A 8))] 1 = mkF m 0 #[.val (.ref (A 8))] [] := by first | (simp [entryFrame, mkF, argsToLocals, Value.category, maxLocals]; done) | rfl
set_option maxRecDepth 65536 in
set_option maxHeartbeats 40000000 in
theorem rm18 (l : Launch) (Z : State) (a0 : Array Value) (hw : ∀ d ∈ tables_1, d.before a0 Z = true) (ws : List Jvm.Cond) (h0 : Heap) (n0 : Nat) (p1 : Int32) (A : Nat → Addr) (K : Nat → ClassId)  (EN : own_St Z A K) (OL0 : Old Z n0 h0) :
    MetFree l own_m0 (head1 (Jvm.Cond.code own_m0 prog_24_method_6_code 1 (some .boolean) :: ws) ({ frames := 0, cells := 0, slots := 0, locals := 0 } : Room)) (fun a U => a = #[(.ref (A 8))] ∧ Z.Warmed39 U.vm ∧ U.heap = h0) (fun _ _ _ _ _ => True) (fun _ U o U' => ∃ v L, o = .returned v ∧ (PQ (some (.int (1 : Int32))) h0 n0) v U'.heap L ∧ FrameEnd U o U' L ({ frames := 0, cells := 0, slots := 0, locals := 0 } : Room).cells ({ frames := 0, cells := 0, slots := 0, locals := 0 } : Room).slots) := by
  refine MetFree.of_bodySF (plainFor_of_name own_pn1) hisR ?_
  intro p e s m args below meth c s₁ Bd hml0 hP hK
  obtain ⟨rfl, hZ, hh⟩ := hP
  have hx := Bd.exec
  have hby := Bd.bytes
  have hml : c.maxLocals = 1 := hml0
  have hown : s.vm.findClass "com/example/measurewright/measurewright/Relation" = some m.cls := findClass_of_methodNamed Bd.named
  have hnm := (name_of_methodNamed Bd.named Bd.method).1
  have X0 : Stand p l e ({ frames := 0, cells := 0, slots := 0, locals := 0 } : Room) s m #[(.ref (A 8))] below meth c s₁ [] 0 0 := Stand.of_body Bd
  have e0 : s₁.heap = h0 := by rw [← hh, Bd.state]; rfl
  have N0 := Fr.nil n0
  have pre0 : ∀ t, Steps p.tables e below (s₁.setTop (mkF m 0 #[.val (.ref (A 8))] [])) t → Steps p.tables e below (s₁.setTop (entryFrame m #[(.ref (A 8))] 1)) t := fun t k => castTop (own_ef_rm18 m p1 A K ) k
  have KK0 : Keep h0 h0 [] := Keep.refl _ _
  obtain ⟨T55, X55, e55, st55⟩ := getF X0 hx hZ hown (host := "") (Or.inl (hw _ (List.mem_of_getElem? (i := 17) rfl))) Via.refl e0 (EN.2.2.2.2.2.1.2.2.2.2.2.2.1.ext OL0.2) (g := (mkF m 1 #[.val (.ref (A 8))] [(.ref (A 8))])) rfl rfl (hb hby own_d_prog_24_method_6_code_1)
  obtain ⟨fs, hr, hrun, hended, hW, hsame⟩ := X55.leave (v := some (.int (1 : Int32))) (fun h => by rw [Bd.returns] at h; cases h)
  refine ⟨_, _, pre0 _ ?_, hrun, hended, _, _, rfl, ?_, ⟨_, rfl⟩, hW, hsame.mono (by decide) (by decide)⟩
  · show Steps p.tables e below (s₁.setTop (mkF m 0 #[.val (.ref (A 8))] [])) _
    refine XS.aloadN X0.here hx rfl (hb hby own_d_prog_24_method_6_code_0) rfl rfl ?_
    show Steps p.tables e below (s₁.setTop (mkF m 1 #[.val (.ref (A 8))] [(.ref (A 8))])) _
    refine st55 _ ?_
    show Steps p.tables e below (T55.setTop (mkF m 4 #[.val (.ref (A 8))] [(.ref (A 23))])) _
    refine XS.ifnullNo X55.here hx rfl (hb hby own_d_prog_24_method_6_code_4) rfl ?_
    show Steps p.tables e below (T55.setTop (mkF m 7 #[.val (.ref (A 8))] [])) _
    refine XS.iconst X55.here hx rfl (hb hby own_d_prog_24_method_6_code_7) ?_
    show Steps p.tables e below (T55.setTop (mkF m 8 #[.val (.ref (A 8))] [(.int (1 : Int32))])) _
    refine XS.goto X55.here hx rfl (pc0 := 8) (pc' := 12) rfl (hb hby own_d_prog_24_method_6_code_8) (by decide) (by decide) ?_
    show Steps p.tables e below (T55.setTop (mkF m 12 #[.val (.ref (A 8))] [(.int (1 : Int32))])) _
    exact retN X55 hx (t := .boolean) Bd.returns (by simp) (hb hby own_d_prog_24_method_6_code_12) hr
  · show PQ (some (.int (1 : Int32))) h0 n0 _ T55.heap _
    rw [e55]
    exact ⟨rfl, N0, rfl⟩
theorem own_d_method_2_code_83 : decode method_2_code 83 = .ok (.iload_n 0, 1) := by decide +kernel
theorem own_d_method_2_code_84 : decode method_2_code 84 = .ok (.bipush 9, 2) := by decide +kernel
theorem own_d_method_2_code_86 : decode method_2_code 86 = .ok (.if_icmp .ne 7, 3) := by decide +kernel
theorem own_d_method_2_code_89 : decode method_2_code 89 = .ok (.getstatic 37, 3) := by decide +kernel
theorem own_d_method_2_code_92 : decode method_2_code 92 = .ok (.areturn, 1) := by decide +kernel
theorem own_ef_rm19 (m : MethodId) (p1 : Int32) (A : Nat → Addr) (K : Nat → ClassId)  : entryFrame m #[(.int (9 : Int32))] 1 = mkF m 0 #[.val (.int (9 : Int32))] [] := by first | (simp [entryFrame, mkF, argsToLocals, Value.category, maxLocals]; done) | rfl
set_option maxRecDepth 65536 in
set_option maxHeartbeats 40000000 in
theorem rm19 (l : Launch) (Z : State) (a0 : Array Value) (hw : ∀ d ∈ tables_1, d.before a0 Z = true) (ws : List Jvm.Cond) (h0 : Heap) (n0 : Nat) (p1 : Int32) (A : Nat → Addr) (K : Nat → ClassId)  (EN : own_St Z A K) (OL0 : Old Z n0 h0) :
    MetFree l own_m1 (head1 (Jvm.Cond.code own_m1 method_2_code 1 (some (.object "com/example/measurewright/measurewright/Relation")) :: ws) ({ frames := 0, cells := 0, slots := 0, locals := 0 } : Room)) (fun a U => a = #[(.int (9 : Int32))] ∧ Z.Warmed39 U.vm ∧ U.heap = h0) (fun _ _ _ _ _ => True) (fun _ U o U' => ∃ v L, o = .returned v ∧ (PQ (some (.ref (A 9))) h0 n0) v U'.heap L ∧ FrameEnd U o U' L ({ frames := 0, cells := 0, slots := 0, locals := 0 } : Room).cells ({ frames := 0, cells := 0, slots := 0, locals := 0 } : Room).slots) := by
  refine MetFree.of_bodySF (plainFor_of_name own_pn0) hisR ?_
  intro p e s m args below meth c s₁ Bd hml0 hP hK
  obtain ⟨rfl, hZ, hh⟩ := hP
  have hx := Bd.exec
  have hby := Bd.bytes
  have hml : c.maxLocals = 1 := hml0
  have hown : s.vm.findClass "com/example/measurewright/measurewright/RelationTakesQuantityPinLaw" = some m.cls := findClass_of_methodNamed Bd.named
  have hnm := (name_of_methodNamed Bd.named Bd.method).1
  have X0 : Stand p l e ({ frames := 0, cells := 0, slots := 0, locals := 0 } : Room) s m #[(.int (9 : Int32))] below meth c s₁ [] 0 0 := Stand.of_body Bd
  have e0 : s₁.heap = h0 := by rw [← hh, Bd.state]; rfl
  have N0 := Fr.nil n0
  have pre0 : ∀ t, Steps p.tables e below (s₁.setTop (mkF m 0 #[.val (.int (9 : Int32))] [])) t → Steps p.tables e below (s₁.setTop (entryFrame m #[(.int (9 : Int32))] 1)) t := fun t k => castTop (own_ef_rm19 m p1 A K ) k
  have KK0 : Keep h0 h0 [] := Keep.refl _ _
  obtain ⟨T57, X57, e57, st57⟩ := getS2 X0 hx hZ hown (host := "") (Or.inl (hw _ (List.mem_of_getElem? (i := 41) rfl))) Via.refl e0 (EN.2.2.1.2.2.1.ext OL0.2) (g := (mkF m 89 #[.val (.int (9 : Int32))] [])) rfl (hb hby own_d_method_2_code_89)
  obtain ⟨fs, hr, hrun, hended, hW, hsame⟩ := X57.leave (v := some (.ref (A 9))) (fun h => by rw [Bd.returns] at h; cases h)
  refine ⟨_, _, pre0 _ ?_, hrun, hended, _, _, rfl, ?_, ⟨_, rfl⟩, hW, hsame.mono (by decide) (by decide)⟩
  · show Steps p.tables e below (s₁.setTop (mkF m 0 #[.val (.int (9 : Int32))] [])) _
    refine XS.iloadN X0.here hx rfl (hb hby own_d_method_2_code_0) rfl ?_
    show Steps p.tables e below (s₁.setTop (mkF m 1 #[.val (.int (9 : Int32))] [(.int (9 : Int32))])) _
    refine XS.ifYes X0.here hx rfl (pc0 := 1) (pc' := 8) rfl (hb hby own_d_method_2_code_1) rfl ((if0 _ _).trans (feq (by decide : ¬ ((9 : Int32) = (0 : Int32)))).2) (by decide) (by decide) ?_
    show Steps p.tables e below (s₁.setTop (mkF m 8 #[.val (.int (9 : Int32))] [])) _
    refine XS.iloadN X0.here hx rfl (hb hby own_d_method_2_code_8) rfl ?_
    show Steps p.tables e below (s₁.setTop (mkF m 9 #[.val (.int (9 : Int32))] [(.int (9 : Int32))])) _
    refine XS.iconst X0.here hx rfl (hb hby own_d_method_2_code_9) ?_
    show Steps p.tables e below (s₁.setTop (mkF m 10 #[.val (.int (9 : Int32))] [(.int (1 : Int32)), (.int (9 : Int32))])) _
    refine XS.icmpYes X0.here hx rfl (pc0 := 10) (pc' := 17) rfl (hb hby own_d_method_2_code_10) rfl (feq (by decide : ¬ ((9 : Int32) = (1 : Int32)))).2 (by decide) (by decide) ?_
    show Steps p.tables e below (s₁.setTop (mkF m 17 #[.val (.int (9 : Int32))] [])) _
    refine XS.iloadN X0.here hx rfl (hb hby own_d_method_2_code_17) rfl ?_
    show Steps p.tables e below (s₁.setTop (mkF m 18 #[.val (.int (9 : Int32))] [(.int (9 : Int32))])) _
    refine XS.iconst X0.here hx rfl (hb hby own_d_method_2_code_18) ?_
    show Steps p.tables e below (s₁.setTop (mkF m 19 #[.val (.int (9 : Int32))] [(.int (2 : Int32)), (.int (9 : Int32))])) _
    refine XS.icmpYes X0.here hx rfl (pc0 := 19) (pc' := 26) rfl (hb hby own_d_method_2_code_19) rfl (feq (by decide : ¬ ((9 : Int32) = (2 : Int32)))).2 (by decide) (by decide) ?_
    show Steps p.tables e below (s₁.setTop (mkF m 26 #[.val (.int (9 : Int32))] [])) _
    refine XS.iloadN X0.here hx rfl (hb hby own_d_method_2_code_26) rfl ?_
    show Steps p.tables e below (s₁.setTop (mkF m 27 #[.val (.int (9 : Int32))] [(.int (9 : Int32))])) _
    refine XS.iconst X0.here hx rfl (hb hby own_d_method_2_code_27) ?_
    show Steps p.tables e below (s₁.setTop (mkF m 28 #[.val (.int (9 : Int32))] [(.int (3 : Int32)), (.int (9 : Int32))])) _
    refine XS.icmpYes X0.here hx rfl (pc0 := 28) (pc' := 35) rfl (hb hby own_d_method_2_code_28) rfl (feq (by decide : ¬ ((9 : Int32) = (3 : Int32)))).2 (by decide) (by decide) ?_
    show Steps p.tables e below (s₁.setTop (mkF m 35 #[.val (.int (9 : Int32))] [])) _
    refine XS.iloadN X0.here hx rfl (hb hby own_d_method_2_code_35) rfl ?_
    show Steps p.tables e below (s₁.setTop (mkF m 36 #[.val (.int (9 : Int32))] [(.int (9 : Int32))])) _
    refine XS.iconst X0.here hx rfl (hb hby own_d_method_2_code_36) ?_
    show Steps p.tables e below (s₁.setTop (mkF m 37 #[.val (.int (9 : Int32))] [(.int (4 : Int32)), (.int (9 : Int32))])) _
    refine XS.icmpYes X0.here hx rfl (pc0 := 37) (pc' := 44) rfl (hb hby own_d_method_2_code_37) rfl (feq (by decide : ¬ ((9 : Int32) = (4 : Int32)))).2 (by decide) (by decide) ?_
    show Steps p.tables e below (s₁.setTop (mkF m 44 #[.val (.int (9 : Int32))] [])) _
    refine XS.iloadN X0.here hx rfl (hb hby own_d_method_2_code_44) rfl ?_
    show Steps p.tables e below (s₁.setTop (mkF m 45 #[.val (.int (9 : Int32))] [(.int (9 : Int32))])) _
    refine XS.iconst X0.here hx rfl (hb hby own_d_method_2_code_45) ?_
    show Steps p.tables e below (s₁.setTop (mkF m 46 #[.val (.int (9 : Int32))] [(.int (5 : Int32)), (.int (9 : Int32))])) _
    refine XS.icmpYes X0.here hx rfl (pc0 := 46) (pc' := 53) rfl (hb hby own_d_method_2_code_46) rfl (feq (by decide : ¬ ((9 : Int32) = (5 : Int32)))).2 (by decide) (by decide) ?_
    show Steps p.tables e below (s₁.setTop (mkF m 53 #[.val (.int (9 : Int32))] [])) _
    refine XS.iloadN X0.here hx rfl (hb hby own_d_method_2_code_53) rfl ?_
    show Steps p.tables e below (s₁.setTop (mkF m 54 #[.val (.int (9 : Int32))] [(.int (9 : Int32))])) _
    refine XS.bipush X0.here hx rfl (hb hby own_d_method_2_code_54) ?_
    show Steps p.tables e below (s₁.setTop (mkF m 56 #[.val (.int (9 : Int32))] [(.int (6 : Int32)), (.int (9 : Int32))])) _
    refine XS.icmpYes X0.here hx rfl (pc0 := 56) (pc' := 63) rfl (hb hby own_d_method_2_code_56) rfl (feq (by decide : ¬ ((9 : Int32) = (6 : Int32)))).2 (by decide) (by decide) ?_
    show Steps p.tables e below (s₁.setTop (mkF m 63 #[.val (.int (9 : Int32))] [])) _
    refine XS.iloadN X0.here hx rfl (hb hby own_d_method_2_code_63) rfl ?_
    show Steps p.tables e below (s₁.setTop (mkF m 64 #[.val (.int (9 : Int32))] [(.int (9 : Int32))])) _
    refine XS.bipush X0.here hx rfl (hb hby own_d_method_2_code_64) ?_
    show Steps p.tables e below (s₁.setTop (mkF m 66 #[.val (.int (9 : Int32))] [(.int (7 : Int32)), (.int (9 : Int32))])) _
    refine XS.icmpYes X0.here hx rfl (pc0 := 66) (pc' := 73) rfl (hb hby own_d_method_2_code_66) rfl (feq (by decide : ¬ ((9 : Int32) = (7 : Int32)))).2 (by decide) (by decide) ?_
    show Steps p.tables e below (s₁.setTop (mkF m 73 #[.val (.int (9 : Int32))] [])) _
    refine XS.iloadN X0.here hx rfl (hb hby own_d_method_2_code_73) rfl ?_
    show Steps p.tables e below (s₁.setTop (mkF m 74 #[.val (.int (9 : Int32))] [(.int (9 : Int32))])) _
    refine XS.bipush X0.here hx rfl (hb hby own_d_method_2_code_74) ?_
    show Steps p.tables e below (s₁.setTop (mkF m 76 #[.val (.int (9 : Int32))] [(.int (8 : Int32)), (.int (9 : Int32))])) _
    refine XS.icmpYes X0.here hx rfl (pc0 := 76) (pc' := 83) rfl (hb hby own_d_method_2_code_76) rfl (feq (by decide : ¬ ((9 : Int32) = (8 : Int32)))).2 (by decide) (by decide) ?_
    show Steps p.tables e below (s₁.setTop (mkF m 83 #[.val (.int (9 : Int32))] [])) _
    refine XS.iloadN X0.here hx rfl (hb hby own_d_method_2_code_83) rfl ?_
    show Steps p.tables e below (s₁.setTop (mkF m 84 #[.val (.int (9 : Int32))] [(.int (9 : Int32))])) _
    refine XS.bipush X0.here hx rfl (hb hby own_d_method_2_code_84) ?_
    show Steps p.tables e below (s₁.setTop (mkF m 86 #[.val (.int (9 : Int32))] [(.int (9 : Int32)), (.int (9 : Int32))])) _
    refine XS.icmpNo X0.here hx rfl (hb hby own_d_method_2_code_86) rfl (teq (by decide : (9 : Int32) = (9 : Int32))).2 ?_
    show Steps p.tables e below (s₁.setTop (mkF m 89 #[.val (.int (9 : Int32))] [])) _
    refine st57 _ ?_
    show Steps p.tables e below (T57.setTop (mkF m 92 #[.val (.int (9 : Int32))] [(.ref (A 9))])) _
    exact retOut X57 hx Bd.returns rfl (Or.inr (Or.inr (Or.inr (Or.inr ⟨rfl, rfl, rfl⟩)))) (hb hby own_d_method_2_code_92) hr
  · show PQ (some (.ref (A 9))) h0 n0 _ T57.heap _
    rw [e57]
    exact ⟨rfl, N0, rfl⟩
theorem own_ef_rm20 (m : MethodId) (p1 : Int32) (A : Nat → Addr) (K : Nat → ClassId)  : entryFrame m #[(.ref (A 9))] 1 = mkF m 0 #[.val (.ref (A 9))] [] := by first | (simp [entryFrame, mkF, argsToLocals, Value.category, maxLocals]; done) | rfl
set_option maxRecDepth 65536 in
set_option maxHeartbeats 40000000 in
theorem rm20 (l : Launch) (Z : State) (a0 : Array Value) (hw : ∀ d ∈ tables_1, d.before a0 Z = true) (ws : List Jvm.Cond) (h0 : Heap) (n0 : Nat) (p1 : Int32) (A : Nat → Addr) (K : Nat → ClassId)  (EN : own_St Z A K) (OL0 : Old Z n0 h0) :
    MetFree l own_m0 (head1 (Jvm.Cond.code own_m0 prog_24_method_6_code 1 (some .boolean) :: ws) ({ frames := 0, cells := 0, slots := 0, locals := 0 } : Room)) (fun a U => a = #[(.ref (A 9))] ∧ Z.Warmed39 U.vm ∧ U.heap = h0) (fun _ _ _ _ _ => True) (fun _ U o U' => ∃ v L, o = .returned v ∧ (PQ (some (.int (1 : Int32))) h0 n0) v U'.heap L ∧ FrameEnd U o U' L ({ frames := 0, cells := 0, slots := 0, locals := 0 } : Room).cells ({ frames := 0, cells := 0, slots := 0, locals := 0 } : Room).slots) := by
  refine MetFree.of_bodySF (plainFor_of_name own_pn1) hisR ?_
  intro p e s m args below meth c s₁ Bd hml0 hP hK
  obtain ⟨rfl, hZ, hh⟩ := hP
  have hx := Bd.exec
  have hby := Bd.bytes
  have hml : c.maxLocals = 1 := hml0
  have hown : s.vm.findClass "com/example/measurewright/measurewright/Relation" = some m.cls := findClass_of_methodNamed Bd.named
  have hnm := (name_of_methodNamed Bd.named Bd.method).1
  have X0 : Stand p l e ({ frames := 0, cells := 0, slots := 0, locals := 0 } : Room) s m #[(.ref (A 9))] below meth c s₁ [] 0 0 := Stand.of_body Bd
  have e0 : s₁.heap = h0 := by rw [← hh, Bd.state]; rfl
  have N0 := Fr.nil n0
  have pre0 : ∀ t, Steps p.tables e below (s₁.setTop (mkF m 0 #[.val (.ref (A 9))] [])) t → Steps p.tables e below (s₁.setTop (entryFrame m #[(.ref (A 9))] 1)) t := fun t k => castTop (own_ef_rm20 m p1 A K ) k
  have KK0 : Keep h0 h0 [] := Keep.refl _ _
  obtain ⟨T61, X61, e61, st61⟩ := getF X0 hx hZ hown (host := "") (Or.inl (hw _ (List.mem_of_getElem? (i := 17) rfl))) Via.refl e0 (EN.2.2.2.2.2.2.1.2.2.2.2.2.2.1.ext OL0.2) (g := (mkF m 1 #[.val (.ref (A 9))] [(.ref (A 9))])) rfl rfl (hb hby own_d_prog_24_method_6_code_1)
  obtain ⟨fs, hr, hrun, hended, hW, hsame⟩ := X61.leave (v := some (.int (1 : Int32))) (fun h => by rw [Bd.returns] at h; cases h)
  refine ⟨_, _, pre0 _ ?_, hrun, hended, _, _, rfl, ?_, ⟨_, rfl⟩, hW, hsame.mono (by decide) (by decide)⟩
  · show Steps p.tables e below (s₁.setTop (mkF m 0 #[.val (.ref (A 9))] [])) _
    refine XS.aloadN X0.here hx rfl (hb hby own_d_prog_24_method_6_code_0) rfl rfl ?_
    show Steps p.tables e below (s₁.setTop (mkF m 1 #[.val (.ref (A 9))] [(.ref (A 9))])) _
    refine st61 _ ?_
    show Steps p.tables e below (T61.setTop (mkF m 4 #[.val (.ref (A 9))] [(.ref (A 27))])) _
    refine XS.ifnullNo X61.here hx rfl (hb hby own_d_prog_24_method_6_code_4) rfl ?_
    show Steps p.tables e below (T61.setTop (mkF m 7 #[.val (.ref (A 9))] [])) _
    refine XS.iconst X61.here hx rfl (hb hby own_d_prog_24_method_6_code_7) ?_
    show Steps p.tables e below (T61.setTop (mkF m 8 #[.val (.ref (A 9))] [(.int (1 : Int32))])) _
    refine XS.goto X61.here hx rfl (pc0 := 8) (pc' := 12) rfl (hb hby own_d_prog_24_method_6_code_8) (by decide) (by decide) ?_
    show Steps p.tables e below (T61.setTop (mkF m 12 #[.val (.ref (A 9))] [(.int (1 : Int32))])) _
    exact retN X61 hx (t := .boolean) Bd.returns (by simp) (hb hby own_d_prog_24_method_6_code_12) hr
  · show PQ (some (.int (1 : Int32))) h0 n0 _ T61.heap _
    rw [e61]
    exact ⟨rfl, N0, rfl⟩
theorem own_d_method_2_code_93 : decode method_2_code 93 = .ok (.iload_n 0, 1) := by decide +kernel
theorem own_d_method_2_code_94 : decode method_2_code 94 = .ok (.bipush 10, 2) := by decide +kernel
theorem own_d_method_2_code_96 : decode method_2_code 96 = .ok (.if_icmp .ne 7, 3) := by decide +kernel
theorem own_d_method_2_code_99 : decode method_2_code 99 = .ok (.getstatic 40, 3) := by decide +kernel
theorem own_d_method_2_code_102 : decode method_2_code 102 = .ok (.areturn, 1) := by decide +kernel
theorem own_ef_rm21 (m : MethodId) (p1 : Int32) (A : Nat → Addr) (K : Nat → ClassId)  : entryFrame m #[(.int (10 : Int32))] 1 = mkF m 0 #[.val (.int (10 : Int32))] [] := by first | (simp [entryFrame, mkF, argsToLocals, Value.category, maxLocals]; done) | rfl
set_option maxRecDepth 65536 in
set_option maxHeartbeats 40000000 in
theorem rm21 (l : Launch) (Z : State) (a0 : Array Value) (hw : ∀ d ∈ tables_1, d.before a0 Z = true) (ws : List Jvm.Cond) (h0 : Heap) (n0 : Nat) (p1 : Int32) (A : Nat → Addr) (K : Nat → ClassId)  (EN : own_St Z A K) (OL0 : Old Z n0 h0) :
    MetFree l own_m1 (head1 (Jvm.Cond.code own_m1 method_2_code 1 (some (.object "com/example/measurewright/measurewright/Relation")) :: ws) ({ frames := 0, cells := 0, slots := 0, locals := 0 } : Room)) (fun a U => a = #[(.int (10 : Int32))] ∧ Z.Warmed39 U.vm ∧ U.heap = h0) (fun _ _ _ _ _ => True) (fun _ U o U' => ∃ v L, o = .returned v ∧ (PQ (some (.ref (A 10))) h0 n0) v U'.heap L ∧ FrameEnd U o U' L ({ frames := 0, cells := 0, slots := 0, locals := 0 } : Room).cells ({ frames := 0, cells := 0, slots := 0, locals := 0 } : Room).slots) := by
  refine MetFree.of_bodySF (plainFor_of_name own_pn0) hisR ?_
  intro p e s m args below meth c s₁ Bd hml0 hP hK
  obtain ⟨rfl, hZ, hh⟩ := hP
  have hx := Bd.exec
  have hby := Bd.bytes
  have hml : c.maxLocals = 1 := hml0
  have hown : s.vm.findClass "com/example/measurewright/measurewright/RelationTakesQuantityPinLaw" = some m.cls := findClass_of_methodNamed Bd.named
  have hnm := (name_of_methodNamed Bd.named Bd.method).1
  have X0 : Stand p l e ({ frames := 0, cells := 0, slots := 0, locals := 0 } : Room) s m #[(.int (10 : Int32))] below meth c s₁ [] 0 0 := Stand.of_body Bd
  have e0 : s₁.heap = h0 := by rw [← hh, Bd.state]; rfl
  have N0 := Fr.nil n0
  have pre0 : ∀ t, Steps p.tables e below (s₁.setTop (mkF m 0 #[.val (.int (10 : Int32))] [])) t → Steps p.tables e below (s₁.setTop (entryFrame m #[(.int (10 : Int32))] 1)) t := fun t k => castTop (own_ef_rm21 m p1 A K ) k
  have KK0 : Keep h0 h0 [] := Keep.refl _ _
  obtain ⟨T63, X63, e63, st63⟩ := getS2 X0 hx hZ hown (host := "") (Or.inl (hw _ (List.mem_of_getElem? (i := 31) rfl))) Via.refl e0 (EN.2.2.1.2.2.2.2.1.ext OL0.2) (g := (mkF m 99 #[.val (.int (10 : Int32))] [])) rfl (hb hby own_d_method_2_code_99)
  obtain ⟨fs, hr, hrun, hended, hW, hsame⟩ := X63.leave (v := some (.ref (A 10))) (fun h => by rw [Bd.returns] at h; cases h)
  refine ⟨_, _, pre0 _ ?_, hrun, hended, _, _, rfl, ?_, ⟨_, rfl⟩, hW, hsame.mono (by decide) (by decide)⟩
  · show Steps p.tables e below (s₁.setTop (mkF m 0 #[.val (.int (10 : Int32))] [])) _
    refine XS.iloadN X0.here hx rfl (hb hby own_d_method_2_code_0) rfl ?_
    show Steps p.tables e below (s₁.setTop (mkF m 1 #[.val (.int (10 : Int32))] [(.int (10 : Int32))])) _
    refine XS.ifYes X0.here hx rfl (pc0 := 1) (pc' := 8) rfl (hb hby own_d_method_2_code_1) rfl ((if0 _ _).trans (feq (by decide : ¬ ((10 : Int32) = (0 : Int32)))).2) (by decide) (by decide) ?_
    show Steps p.tables e below (s₁.setTop (mkF m 8 #[.val (.int (10 : Int32))] [])) _
    refine XS.iloadN X0.here hx rfl (hb hby own_d_method_2_code_8) rfl ?_
    show Steps p.tables e below (s₁.setTop (mkF m 9 #[.val (.int (10 : Int32))] [(.int (10 : Int32))])) _
    refine XS.iconst X0.here hx rfl (hb hby own_d_method_2_code_9) ?_
    show Steps p.tables e below (s₁.setTop (mkF m 10 #[.val (.int (10 : Int32))] [(.int (1 : Int32)), (.int (10 : Int32))])) _
    refine XS.icmpYes X0.here hx rfl (pc0 := 10) (pc' := 17) rfl (hb hby own_d_method_2_code_10) rfl (feq (by decide : ¬ ((10 : Int32) = (1 : Int32)))).2 (by decide) (by decide) ?_
    show Steps p.tables e below (s₁.setTop (mkF m 17 #[.val (.int (10 : Int32))] [])) _
    refine XS.iloadN X0.here hx rfl (hb hby own_d_method_2_code_17) rfl ?_
    show Steps p.tables e below (s₁.setTop (mkF m 18 #[.val (.int (10 : Int32))] [(.int (10 : Int32))])) _
    refine XS.iconst X0.here hx rfl (hb hby own_d_method_2_code_18) ?_
    show Steps p.tables e below (s₁.setTop (mkF m 19 #[.val (.int (10 : Int32))] [(.int (2 : Int32)), (.int (10 : Int32))])) _
    refine XS.icmpYes X0.here hx rfl (pc0 := 19) (pc' := 26) rfl (hb hby own_d_method_2_code_19) rfl (feq (by decide : ¬ ((10 : Int32) = (2 : Int32)))).2 (by decide) (by decide) ?_
    show Steps p.tables e below (s₁.setTop (mkF m 26 #[.val (.int (10 : Int32))] [])) _
    refine XS.iloadN X0.here hx rfl (hb hby own_d_method_2_code_26) rfl ?_
    show Steps p.tables e below (s₁.setTop (mkF m 27 #[.val (.int (10 : Int32))] [(.int (10 : Int32))])) _
    refine XS.iconst X0.here hx rfl (hb hby own_d_method_2_code_27) ?_
    show Steps p.tables e below (s₁.setTop (mkF m 28 #[.val (.int (10 : Int32))] [(.int (3 : Int32)), (.int (10 : Int32))])) _
    refine XS.icmpYes X0.here hx rfl (pc0 := 28) (pc' := 35) rfl (hb hby own_d_method_2_code_28) rfl (feq (by decide : ¬ ((10 : Int32) = (3 : Int32)))).2 (by decide) (by decide) ?_
    show Steps p.tables e below (s₁.setTop (mkF m 35 #[.val (.int (10 : Int32))] [])) _
    refine XS.iloadN X0.here hx rfl (hb hby own_d_method_2_code_35) rfl ?_
    show Steps p.tables e below (s₁.setTop (mkF m 36 #[.val (.int (10 : Int32))] [(.int (10 : Int32))])) _
    refine XS.iconst X0.here hx rfl (hb hby own_d_method_2_code_36) ?_
    show Steps p.tables e below (s₁.setTop (mkF m 37 #[.val (.int (10 : Int32))] [(.int (4 : Int32)), (.int (10 : Int32))])) _
    refine XS.icmpYes X0.here hx rfl (pc0 := 37) (pc' := 44) rfl (hb hby own_d_method_2_code_37) rfl (feq (by decide : ¬ ((10 : Int32) = (4 : Int32)))).2 (by decide) (by decide) ?_
    show Steps p.tables e below (s₁.setTop (mkF m 44 #[.val (.int (10 : Int32))] [])) _
    refine XS.iloadN X0.here hx rfl (hb hby own_d_method_2_code_44) rfl ?_
    show Steps p.tables e below (s₁.setTop (mkF m 45 #[.val (.int (10 : Int32))] [(.int (10 : Int32))])) _
    refine XS.iconst X0.here hx rfl (hb hby own_d_method_2_code_45) ?_
    show Steps p.tables e below (s₁.setTop (mkF m 46 #[.val (.int (10 : Int32))] [(.int (5 : Int32)), (.int (10 : Int32))])) _
    refine XS.icmpYes X0.here hx rfl (pc0 := 46) (pc' := 53) rfl (hb hby own_d_method_2_code_46) rfl (feq (by decide : ¬ ((10 : Int32) = (5 : Int32)))).2 (by decide) (by decide) ?_
    show Steps p.tables e below (s₁.setTop (mkF m 53 #[.val (.int (10 : Int32))] [])) _
    refine XS.iloadN X0.here hx rfl (hb hby own_d_method_2_code_53) rfl ?_
    show Steps p.tables e below (s₁.setTop (mkF m 54 #[.val (.int (10 : Int32))] [(.int (10 : Int32))])) _
    refine XS.bipush X0.here hx rfl (hb hby own_d_method_2_code_54) ?_
    show Steps p.tables e below (s₁.setTop (mkF m 56 #[.val (.int (10 : Int32))] [(.int (6 : Int32)), (.int (10 : Int32))])) _
    refine XS.icmpYes X0.here hx rfl (pc0 := 56) (pc' := 63) rfl (hb hby own_d_method_2_code_56) rfl (feq (by decide : ¬ ((10 : Int32) = (6 : Int32)))).2 (by decide) (by decide) ?_
    show Steps p.tables e below (s₁.setTop (mkF m 63 #[.val (.int (10 : Int32))] [])) _
    refine XS.iloadN X0.here hx rfl (hb hby own_d_method_2_code_63) rfl ?_
    show Steps p.tables e below (s₁.setTop (mkF m 64 #[.val (.int (10 : Int32))] [(.int (10 : Int32))])) _
    refine XS.bipush X0.here hx rfl (hb hby own_d_method_2_code_64) ?_
    show Steps p.tables e below (s₁.setTop (mkF m 66 #[.val (.int (10 : Int32))] [(.int (7 : Int32)), (.int (10 : Int32))])) _
    refine XS.icmpYes X0.here hx rfl (pc0 := 66) (pc' := 73) rfl (hb hby own_d_method_2_code_66) rfl (feq (by decide : ¬ ((10 : Int32) = (7 : Int32)))).2 (by decide) (by decide) ?_
    show Steps p.tables e below (s₁.setTop (mkF m 73 #[.val (.int (10 : Int32))] [])) _
    refine XS.iloadN X0.here hx rfl (hb hby own_d_method_2_code_73) rfl ?_
    show Steps p.tables e below (s₁.setTop (mkF m 74 #[.val (.int (10 : Int32))] [(.int (10 : Int32))])) _
    refine XS.bipush X0.here hx rfl (hb hby own_d_method_2_code_74) ?_
    show Steps p.tables e below (s₁.setTop (mkF m 76 #[.val (.int (10 : Int32))] [(.int (8 : Int32)), (.int (10 : Int32))])) _
    refine XS.icmpYes X0.here hx rfl (pc0 := 76) (pc' := 83) rfl (hb hby own_d_method_2_code_76) rfl (feq (by decide : ¬ ((10 : Int32) = (8 : Int32)))).2 (by decide) (by decide) ?_
    show Steps p.tables e below (s₁.setTop (mkF m 83 #[.val (.int (10 : Int32))] [])) _
    refine XS.iloadN X0.here hx rfl (hb hby own_d_method_2_code_83) rfl ?_
    show Steps p.tables e below (s₁.setTop (mkF m 84 #[.val (.int (10 : Int32))] [(.int (10 : Int32))])) _
    refine XS.bipush X0.here hx rfl (hb hby own_d_method_2_code_84) ?_
    show Steps p.tables e below (s₁.setTop (mkF m 86 #[.val (.int (10 : Int32))] [(.int (9 : Int32)), (.int (10 : Int32))])) _
    refine XS.icmpYes X0.here hx rfl (pc0 := 86) (pc' := 93) rfl (hb hby own_d_method_2_code_86) rfl (feq (by decide : ¬ ((10 : Int32) = (9 : Int32)))).2 (by decide) (by decide) ?_
    show Steps p.tables e below (s₁.setTop (mkF m 93 #[.val (.int (10 : Int32))] [])) _
    refine XS.iloadN X0.here hx rfl (hb hby own_d_method_2_code_93) rfl ?_
    show Steps p.tables e below (s₁.setTop (mkF m 94 #[.val (.int (10 : Int32))] [(.int (10 : Int32))])) _
    refine XS.bipush X0.here hx rfl (hb hby own_d_method_2_code_94) ?_
    show Steps p.tables e below (s₁.setTop (mkF m 96 #[.val (.int (10 : Int32))] [(.int (10 : Int32)), (.int (10 : Int32))])) _
    refine XS.icmpNo X0.here hx rfl (hb hby own_d_method_2_code_96) rfl (teq (by decide : (10 : Int32) = (10 : Int32))).2 ?_
    show Steps p.tables e below (s₁.setTop (mkF m 99 #[.val (.int (10 : Int32))] [])) _
    refine st63 _ ?_
    show Steps p.tables e below (T63.setTop (mkF m 102 #[.val (.int (10 : Int32))] [(.ref (A 10))])) _
    exact retOut X63 hx Bd.returns rfl (Or.inr (Or.inr (Or.inr (Or.inr ⟨rfl, rfl, rfl⟩)))) (hb hby own_d_method_2_code_102) hr
  · show PQ (some (.ref (A 10))) h0 n0 _ T63.heap _
    rw [e63]
    exact ⟨rfl, N0, rfl⟩
theorem own_ef_rm22 (m : MethodId) (p1 : Int32) (A : Nat → Addr) (K : Nat → ClassId)  : entryFrame m #[(.ref (A 10))] 1 = mkF m 0 #[.val (.ref (A 10))] [] := by first | (simp [entryFrame, mkF, argsToLocals, Value.category, maxLocals]; done) | rfl
set_option maxRecDepth 65536 in
set_option maxHeartbeats 40000000 in
theorem rm22 (l : Launch) (Z : State) (a0 : Array Value) (hw : ∀ d ∈ tables_1, d.before a0 Z = true) (ws : List Jvm.Cond) (h0 : Heap) (n0 : Nat) (p1 : Int32) (A : Nat → Addr) (K : Nat → ClassId)  (EN : own_St Z A K) (OL0 : Old Z n0 h0) :
    MetFree l own_m0 (head1 (Jvm.Cond.code own_m0 prog_24_method_6_code 1 (some .boolean) :: ws) ({ frames := 0, cells := 0, slots := 0, locals := 0 } : Room)) (fun a U => a = #[(.ref (A 10))] ∧ Z.Warmed39 U.vm ∧ U.heap = h0) (fun _ _ _ _ _ => True) (fun _ U o U' => ∃ v L, o = .returned v ∧ (PQ (some (.int (1 : Int32))) h0 n0) v U'.heap L ∧ FrameEnd U o U' L ({ frames := 0, cells := 0, slots := 0, locals := 0 } : Room).cells ({ frames := 0, cells := 0, slots := 0, locals := 0 } : Room).slots) := by
  refine MetFree.of_bodySF (plainFor_of_name own_pn1) hisR ?_
  intro p e s m args below meth c s₁ Bd hml0 hP hK
  obtain ⟨rfl, hZ, hh⟩ := hP
  have hx := Bd.exec
  have hby := Bd.bytes
  have hml : c.maxLocals = 1 := hml0
  have hown : s.vm.findClass "com/example/measurewright/measurewright/Relation" = some m.cls := findClass_of_methodNamed Bd.named
  have hnm := (name_of_methodNamed Bd.named Bd.method).1
  have X0 : Stand p l e ({ frames := 0, cells := 0, slots := 0, locals := 0 } : Room) s m #[(.ref (A 10))] below meth c s₁ [] 0 0 := Stand.of_body Bd
  have e0 : s₁.heap = h0 := by rw [← hh, Bd.state]; rfl
  have N0 := Fr.nil n0
  have pre0 : ∀ t, Steps p.tables e below (s₁.setTop (mkF m 0 #[.val (.ref (A 10))] [])) t → Steps p.tables e below (s₁.setTop (entryFrame m #[(.ref (A 10))] 1)) t := fun t k => castTop (own_ef_rm22 m p1 A K ) k
  have KK0 : Keep h0 h0 [] := Keep.refl _ _
  obtain ⟨T67, X67, e67, st67⟩ := getF X0 hx hZ hown (host := "") (Or.inl (hw _ (List.mem_of_getElem? (i := 17) rfl))) Via.refl e0 (EN.2.2.2.2.2.1.2.2.2.2.1.ext OL0.2) (g := (mkF m 1 #[.val (.ref (A 10))] [(.ref (A 10))])) rfl rfl (hb hby own_d_prog_24_method_6_code_1)
  obtain ⟨fs, hr, hrun, hended, hW, hsame⟩ := X67.leave (v := some (.int (1 : Int32))) (fun h => by rw [Bd.returns] at h; cases h)
  refine ⟨_, _, pre0 _ ?_, hrun, hended, _, _, rfl, ?_, ⟨_, rfl⟩, hW, hsame.mono (by decide) (by decide)⟩
  · show Steps p.tables e below (s₁.setTop (mkF m 0 #[.val (.ref (A 10))] [])) _
    refine XS.aloadN X0.here hx rfl (hb hby own_d_prog_24_method_6_code_0) rfl rfl ?_
    show Steps p.tables e below (s₁.setTop (mkF m 1 #[.val (.ref (A 10))] [(.ref (A 10))])) _
    refine st67 _ ?_
    show Steps p.tables e below (T67.setTop (mkF m 4 #[.val (.ref (A 10))] [(.ref (A 22))])) _
    refine XS.ifnullNo X67.here hx rfl (hb hby own_d_prog_24_method_6_code_4) rfl ?_
    show Steps p.tables e below (T67.setTop (mkF m 7 #[.val (.ref (A 10))] [])) _
    refine XS.iconst X67.here hx rfl (hb hby own_d_prog_24_method_6_code_7) ?_
    show Steps p.tables e below (T67.setTop (mkF m 8 #[.val (.ref (A 10))] [(.int (1 : Int32))])) _
    refine XS.goto X67.here hx rfl (pc0 := 8) (pc' := 12) rfl (hb hby own_d_prog_24_method_6_code_8) (by decide) (by decide) ?_
    show Steps p.tables e below (T67.setTop (mkF m 12 #[.val (.ref (A 10))] [(.int (1 : Int32))])) _
    exact retN X67 hx (t := .boolean) Bd.returns (by simp) (hb hby own_d_prog_24_method_6_code_12) hr
  · show PQ (some (.int (1 : Int32))) h0 n0 _ T67.heap _
    rw [e67]
    exact ⟨rfl, N0, rfl⟩
theorem own_d_method_2_code_103 : decode method_2_code 103 = .ok (.iload_n 0, 1) := by decide +kernel
theorem own_d_method_2_code_104 : decode method_2_code 104 = .ok (.bipush 11, 2) := by decide +kernel
theorem own_d_method_2_code_106 : decode method_2_code 106 = .ok (.if_icmp .ne 7, 3) := by decide +kernel
theorem own_d_method_2_code_109 : decode method_2_code 109 = .ok (.getstatic 43, 3) := by decide +kernel
theorem own_d_method_2_code_112 : decode method_2_code 112 = .ok (.areturn, 1) := by decide +kernel
theorem own_ef_rm23 (m : MethodId) (p1 : Int32) (A : Nat → Addr) (K : Nat → ClassId)  : entryFrame m #[(.int (11 : Int32))] 1 = mkF m 0 #[.val (.int (11 : Int32))] [] := by first | (simp [entryFrame, mkF, argsToLocals, Value.category, maxLocals]; done) | rfl
set_option maxRecDepth 65536 in
set_option maxHeartbeats 40000000 in
theorem rm23 (l : Launch) (Z : State) (a0 : Array Value) (hw : ∀ d ∈ tables_1, d.before a0 Z = true) (ws : List Jvm.Cond) (h0 : Heap) (n0 : Nat) (p1 : Int32) (A : Nat → Addr) (K : Nat → ClassId)  (EN : own_St Z A K) (OL0 : Old Z n0 h0) :
    MetFree l own_m1 (head1 (Jvm.Cond.code own_m1 method_2_code 1 (some (.object "com/example/measurewright/measurewright/Relation")) :: ws) ({ frames := 0, cells := 0, slots := 0, locals := 0 } : Room)) (fun a U => a = #[(.int (11 : Int32))] ∧ Z.Warmed39 U.vm ∧ U.heap = h0) (fun _ _ _ _ _ => True) (fun _ U o U' => ∃ v L, o = .returned v ∧ (PQ (some (.ref (A 11))) h0 n0) v U'.heap L ∧ FrameEnd U o U' L ({ frames := 0, cells := 0, slots := 0, locals := 0 } : Room).cells ({ frames := 0, cells := 0, slots := 0, locals := 0 } : Room).slots) := by
  refine MetFree.of_bodySF (plainFor_of_name own_pn0) hisR ?_
  intro p e s m args below meth c s₁ Bd hml0 hP hK
  obtain ⟨rfl, hZ, hh⟩ := hP
  have hx := Bd.exec
  have hby := Bd.bytes
  have hml : c.maxLocals = 1 := hml0
  have hown : s.vm.findClass "com/example/measurewright/measurewright/RelationTakesQuantityPinLaw" = some m.cls := findClass_of_methodNamed Bd.named
  have hnm := (name_of_methodNamed Bd.named Bd.method).1
  have X0 : Stand p l e ({ frames := 0, cells := 0, slots := 0, locals := 0 } : Room) s m #[(.int (11 : Int32))] below meth c s₁ [] 0 0 := Stand.of_body Bd
  have e0 : s₁.heap = h0 := by rw [← hh, Bd.state]; rfl
  have N0 := Fr.nil n0
  have pre0 : ∀ t, Steps p.tables e below (s₁.setTop (mkF m 0 #[.val (.int (11 : Int32))] [])) t → Steps p.tables e below (s₁.setTop (entryFrame m #[(.int (11 : Int32))] 1)) t := fun t k => castTop (own_ef_rm23 m p1 A K ) k
  have KK0 : Keep h0 h0 [] := Keep.refl _ _
  obtain ⟨T69, X69, e69, st69⟩ := getS2 X0 hx hZ hown (host := "") (Or.inl (hw _ (List.mem_of_getElem? (i := 8) rfl))) Via.refl e0 (EN.2.2.1.2.2.2.2.2.2.1.ext OL0.2) (g := (mkF m 109 #[.val (.int (11 : Int32))] [])) rfl (hb hby own_d_method_2_code_109)
  obtain ⟨fs, hr, hrun, hended, hW, hsame⟩ := X69.leave (v := some (.ref (A 11))) (fun h => by rw [Bd.returns] at h; cases h)
  refine ⟨_, _, pre0 _ ?_, hrun, hended, _, _, rfl, ?_, ⟨_, rfl⟩, hW, hsame.mono (by decide) (by decide)⟩
  · show Steps p.tables e below (s₁.setTop (mkF m 0 #[.val (.int (11 : Int32))] [])) _
    refine XS.iloadN X0.here hx rfl (hb hby own_d_method_2_code_0) rfl ?_
    show Steps p.tables e below (s₁.setTop (mkF m 1 #[.val (.int (11 : Int32))] [(.int (11 : Int32))])) _
    refine XS.ifYes X0.here hx rfl (pc0 := 1) (pc' := 8) rfl (hb hby own_d_method_2_code_1) rfl ((if0 _ _).trans (feq (by decide : ¬ ((11 : Int32) = (0 : Int32)))).2) (by decide) (by decide) ?_
    show Steps p.tables e below (s₁.setTop (mkF m 8 #[.val (.int (11 : Int32))] [])) _
    refine XS.iloadN X0.here hx rfl (hb hby own_d_method_2_code_8) rfl ?_
    show Steps p.tables e below (s₁.setTop (mkF m 9 #[.val (.int (11 : Int32))] [(.int (11 : Int32))])) _
    refine XS.iconst X0.here hx rfl (hb hby own_d_method_2_code_9) ?_
    show Steps p.tables e below (s₁.setTop (mkF m 10 #[.val (.int (11 : Int32))] [(.int (1 : Int32)), (.int (11 : Int32))])) _
    refine XS.icmpYes X0.here hx rfl (pc0 := 10) (pc' := 17) rfl (hb hby own_d_method_2_code_10) rfl (feq (by decide : ¬ ((11 : Int32) = (1 : Int32)))).2 (by decide) (by decide) ?_
    show Steps p.tables e below (s₁.setTop (mkF m 17 #[.val (.int (11 : Int32))] [])) _
    refine XS.iloadN X0.here hx rfl (hb hby own_d_method_2_code_17) rfl ?_
    show Steps p.tables e below (s₁.setTop (mkF m 18 #[.val (.int (11 : Int32))] [(.int (11 : Int32))])) _
    refine XS.iconst X0.here hx rfl (hb hby own_d_method_2_code_18) ?_
    show Steps p.tables e below (s₁.setTop (mkF m 19 #[.val (.int (11 : Int32))] [(.int (2 : Int32)), (.int (11 : Int32))])) _
    refine XS.icmpYes X0.here hx rfl (pc0 := 19) (pc' := 26) rfl (hb hby own_d_method_2_code_19) rfl (feq (by decide : ¬ ((11 : Int32) = (2 : Int32)))).2 (by decide) (by decide) ?_
    show Steps p.tables e below (s₁.setTop (mkF m 26 #[.val (.int (11 : Int32))] [])) _
    refine XS.iloadN X0.here hx rfl (hb hby own_d_method_2_code_26) rfl ?_
    show Steps p.tables e below (s₁.setTop (mkF m 27 #[.val (.int (11 : Int32))] [(.int (11 : Int32))])) _
    refine XS.iconst X0.here hx rfl (hb hby own_d_method_2_code_27) ?_
    show Steps p.tables e below (s₁.setTop (mkF m 28 #[.val (.int (11 : Int32))] [(.int (3 : Int32)), (.int (11 : Int32))])) _
    refine XS.icmpYes X0.here hx rfl (pc0 := 28) (pc' := 35) rfl (hb hby own_d_method_2_code_28) rfl (feq (by decide : ¬ ((11 : Int32) = (3 : Int32)))).2 (by decide) (by decide) ?_
    show Steps p.tables e below (s₁.setTop (mkF m 35 #[.val (.int (11 : Int32))] [])) _
    refine XS.iloadN X0.here hx rfl (hb hby own_d_method_2_code_35) rfl ?_
    show Steps p.tables e below (s₁.setTop (mkF m 36 #[.val (.int (11 : Int32))] [(.int (11 : Int32))])) _
    refine XS.iconst X0.here hx rfl (hb hby own_d_method_2_code_36) ?_
    show Steps p.tables e below (s₁.setTop (mkF m 37 #[.val (.int (11 : Int32))] [(.int (4 : Int32)), (.int (11 : Int32))])) _
    refine XS.icmpYes X0.here hx rfl (pc0 := 37) (pc' := 44) rfl (hb hby own_d_method_2_code_37) rfl (feq (by decide : ¬ ((11 : Int32) = (4 : Int32)))).2 (by decide) (by decide) ?_
    show Steps p.tables e below (s₁.setTop (mkF m 44 #[.val (.int (11 : Int32))] [])) _
    refine XS.iloadN X0.here hx rfl (hb hby own_d_method_2_code_44) rfl ?_
    show Steps p.tables e below (s₁.setTop (mkF m 45 #[.val (.int (11 : Int32))] [(.int (11 : Int32))])) _
    refine XS.iconst X0.here hx rfl (hb hby own_d_method_2_code_45) ?_
    show Steps p.tables e below (s₁.setTop (mkF m 46 #[.val (.int (11 : Int32))] [(.int (5 : Int32)), (.int (11 : Int32))])) _
    refine XS.icmpYes X0.here hx rfl (pc0 := 46) (pc' := 53) rfl (hb hby own_d_method_2_code_46) rfl (feq (by decide : ¬ ((11 : Int32) = (5 : Int32)))).2 (by decide) (by decide) ?_
    show Steps p.tables e below (s₁.setTop (mkF m 53 #[.val (.int (11 : Int32))] [])) _
    refine XS.iloadN X0.here hx rfl (hb hby own_d_method_2_code_53) rfl ?_
    show Steps p.tables e below (s₁.setTop (mkF m 54 #[.val (.int (11 : Int32))] [(.int (11 : Int32))])) _
    refine XS.bipush X0.here hx rfl (hb hby own_d_method_2_code_54) ?_
    show Steps p.tables e below (s₁.setTop (mkF m 56 #[.val (.int (11 : Int32))] [(.int (6 : Int32)), (.int (11 : Int32))])) _
    refine XS.icmpYes X0.here hx rfl (pc0 := 56) (pc' := 63) rfl (hb hby own_d_method_2_code_56) rfl (feq (by decide : ¬ ((11 : Int32) = (6 : Int32)))).2 (by decide) (by decide) ?_
    show Steps p.tables e below (s₁.setTop (mkF m 63 #[.val (.int (11 : Int32))] [])) _
    refine XS.iloadN X0.here hx rfl (hb hby own_d_method_2_code_63) rfl ?_
    show Steps p.tables e below (s₁.setTop (mkF m 64 #[.val (.int (11 : Int32))] [(.int (11 : Int32))])) _
    refine XS.bipush X0.here hx rfl (hb hby own_d_method_2_code_64) ?_
    show Steps p.tables e below (s₁.setTop (mkF m 66 #[.val (.int (11 : Int32))] [(.int (7 : Int32)), (.int (11 : Int32))])) _
    refine XS.icmpYes X0.here hx rfl (pc0 := 66) (pc' := 73) rfl (hb hby own_d_method_2_code_66) rfl (feq (by decide : ¬ ((11 : Int32) = (7 : Int32)))).2 (by decide) (by decide) ?_
    show Steps p.tables e below (s₁.setTop (mkF m 73 #[.val (.int (11 : Int32))] [])) _
    refine XS.iloadN X0.here hx rfl (hb hby own_d_method_2_code_73) rfl ?_
    show Steps p.tables e below (s₁.setTop (mkF m 74 #[.val (.int (11 : Int32))] [(.int (11 : Int32))])) _
    refine XS.bipush X0.here hx rfl (hb hby own_d_method_2_code_74) ?_
    show Steps p.tables e below (s₁.setTop (mkF m 76 #[.val (.int (11 : Int32))] [(.int (8 : Int32)), (.int (11 : Int32))])) _
    refine XS.icmpYes X0.here hx rfl (pc0 := 76) (pc' := 83) rfl (hb hby own_d_method_2_code_76) rfl (feq (by decide : ¬ ((11 : Int32) = (8 : Int32)))).2 (by decide) (by decide) ?_
    show Steps p.tables e below (s₁.setTop (mkF m 83 #[.val (.int (11 : Int32))] [])) _
    refine XS.iloadN X0.here hx rfl (hb hby own_d_method_2_code_83) rfl ?_
    show Steps p.tables e below (s₁.setTop (mkF m 84 #[.val (.int (11 : Int32))] [(.int (11 : Int32))])) _
    refine XS.bipush X0.here hx rfl (hb hby own_d_method_2_code_84) ?_
    show Steps p.tables e below (s₁.setTop (mkF m 86 #[.val (.int (11 : Int32))] [(.int (9 : Int32)), (.int (11 : Int32))])) _
    refine XS.icmpYes X0.here hx rfl (pc0 := 86) (pc' := 93) rfl (hb hby own_d_method_2_code_86) rfl (feq (by decide : ¬ ((11 : Int32) = (9 : Int32)))).2 (by decide) (by decide) ?_
    show Steps p.tables e below (s₁.setTop (mkF m 93 #[.val (.int (11 : Int32))] [])) _
    refine XS.iloadN X0.here hx rfl (hb hby own_d_method_2_code_93) rfl ?_
    show Steps p.tables e below (s₁.setTop (mkF m 94 #[.val (.int (11 : Int32))] [(.int (11 : Int32))])) _
    refine XS.bipush X0.here hx rfl (hb hby own_d_method_2_code_94) ?_
    show Steps p.tables e below (s₁.setTop (mkF m 96 #[.val (.int (11 : Int32))] [(.int (10 : Int32)), (.int (11 : Int32))])) _
    refine XS.icmpYes X0.here hx rfl (pc0 := 96) (pc' := 103) rfl (hb hby own_d_method_2_code_96) rfl (feq (by decide : ¬ ((11 : Int32) = (10 : Int32)))).2 (by decide) (by decide) ?_
    show Steps p.tables e below (s₁.setTop (mkF m 103 #[.val (.int (11 : Int32))] [])) _
    refine XS.iloadN X0.here hx rfl (hb hby own_d_method_2_code_103) rfl ?_
    show Steps p.tables e below (s₁.setTop (mkF m 104 #[.val (.int (11 : Int32))] [(.int (11 : Int32))])) _
    refine XS.bipush X0.here hx rfl (hb hby own_d_method_2_code_104) ?_
    show Steps p.tables e below (s₁.setTop (mkF m 106 #[.val (.int (11 : Int32))] [(.int (11 : Int32)), (.int (11 : Int32))])) _
    refine XS.icmpNo X0.here hx rfl (hb hby own_d_method_2_code_106) rfl (teq (by decide : (11 : Int32) = (11 : Int32))).2 ?_
    show Steps p.tables e below (s₁.setTop (mkF m 109 #[.val (.int (11 : Int32))] [])) _
    refine st69 _ ?_
    show Steps p.tables e below (T69.setTop (mkF m 112 #[.val (.int (11 : Int32))] [(.ref (A 11))])) _
    exact retOut X69 hx Bd.returns rfl (Or.inr (Or.inr (Or.inr (Or.inr ⟨rfl, rfl, rfl⟩)))) (hb hby own_d_method_2_code_112) hr
  · show PQ (some (.ref (A 11))) h0 n0 _ T69.heap _
    rw [e69]
    exact ⟨rfl, N0, rfl⟩
theorem own_d_prog_24_method_6_code_11 : decode prog_24_method_6_code 11 = .ok (.iconst 0, 1) := by decide +kernel
theorem own_ef_rm24 (m : MethodId) (p1 : Int32) (A : Nat → Addr) (K : Nat → ClassId)  : entryFrame m #[(.ref (A 11))] 1 = mkF m 0 #[.val (.ref (A 11))] [] := by first | (simp [entryFrame, mkF, argsToLocals, Value.category, maxLocals]; done) | rfl
set_option maxRecDepth 65536 in
set_option maxHeartbeats 40000000 in
theorem rm24 (l : Launch) (Z : State) (a0 : Array Value) (hw : ∀ d ∈ tables_1, d.before a0 Z = true) (ws : List Jvm.Cond) (h0 : Heap) (n0 : Nat) (p1 : Int32) (A : Nat → Addr) (K : Nat → ClassId)  (EN : own_St Z A K) (OL0 : Old Z n0 h0) :
    MetFree l own_m0 (head1 (Jvm.Cond.code own_m0 prog_24_method_6_code 1 (some .boolean) :: ws) ({ frames := 0, cells := 0, slots := 0, locals := 0 } : Room)) (fun a U => a = #[(.ref (A 11))] ∧ Z.Warmed39 U.vm ∧ U.heap = h0) (fun _ _ _ _ _ => True) (fun _ U o U' => ∃ v L, o = .returned v ∧ (PQ (some (.int (0 : Int32))) h0 n0) v U'.heap L ∧ FrameEnd U o U' L ({ frames := 0, cells := 0, slots := 0, locals := 0 } : Room).cells ({ frames := 0, cells := 0, slots := 0, locals := 0 } : Room).slots) := by
  refine MetFree.of_bodySF (plainFor_of_name own_pn1) hisR ?_
  intro p e s m args below meth c s₁ Bd hml0 hP hK
  obtain ⟨rfl, hZ, hh⟩ := hP
  have hx := Bd.exec
  have hby := Bd.bytes
  have hml : c.maxLocals = 1 := hml0
  have hown : s.vm.findClass "com/example/measurewright/measurewright/Relation" = some m.cls := findClass_of_methodNamed Bd.named
  have hnm := (name_of_methodNamed Bd.named Bd.method).1
  have X0 : Stand p l e ({ frames := 0, cells := 0, slots := 0, locals := 0 } : Room) s m #[(.ref (A 11))] below meth c s₁ [] 0 0 := Stand.of_body Bd
  have e0 : s₁.heap = h0 := by rw [← hh, Bd.state]; rfl
  have N0 := Fr.nil n0
  have pre0 : ∀ t, Steps p.tables e below (s₁.setTop (mkF m 0 #[.val (.ref (A 11))] [])) t → Steps p.tables e below (s₁.setTop (entryFrame m #[(.ref (A 11))] 1)) t := fun t k => castTop (own_ef_rm24 m p1 A K ) k
  have KK0 : Keep h0 h0 [] := Keep.refl _ _
  obtain ⟨T72, X72, e72, st72⟩ := getF X0 hx hZ hown (host := "") (Or.inl (hw _ (List.mem_of_getElem? (i := 17) rfl))) Via.refl e0 (EN.2.2.2.2.2.2.2.2.1.2.2.1.ext OL0.2) (g := (mkF m 1 #[.val (.ref (A 11))] [(.ref (A 11))])) rfl rfl (hb hby own_d_prog_24_method_6_code_1)
  obtain ⟨fs, hr, hrun, hended, hW, hsame⟩ := X72.leave (v := some (.int (0 : Int32))) (fun h => by rw [Bd.returns] at h; cases h)
  refine ⟨_, _, pre0 _ ?_, hrun, hended, _, _, rfl, ?_, ⟨_, rfl⟩, hW, hsame.mono (by decide) (by decide)⟩
  · show Steps p.tables e below (s₁.setTop (mkF m 0 #[.val (.ref (A 11))] [])) _
    refine XS.aloadN X0.here hx rfl (hb hby own_d_prog_24_method_6_code_0) rfl rfl ?_
    show Steps p.tables e below (s₁.setTop (mkF m 1 #[.val (.ref (A 11))] [(.ref (A 11))])) _
    refine st72 _ ?_
    show Steps p.tables e below (T72.setTop (mkF m 4 #[.val (.ref (A 11))] [.null])) _
    refine XS.ifnullYes X72.here hx rfl (pc0 := 4) (pc' := 11) rfl (hb hby own_d_prog_24_method_6_code_4) rfl (by decide) (by decide) ?_
    show Steps p.tables e below (T72.setTop (mkF m 11 #[.val (.ref (A 11))] [])) _
    refine XS.iconst X72.here hx rfl (hb hby own_d_prog_24_method_6_code_11) ?_
    show Steps p.tables e below (T72.setTop (mkF m 12 #[.val (.ref (A 11))] [(.int (0 : Int32))])) _
    exact retN X72 hx (t := .boolean) Bd.returns (by simp) (hb hby own_d_prog_24_method_6_code_12) hr
  · show PQ (some (.int (0 : Int32))) h0 n0 _ T72.heap _
    rw [e72]
    exact ⟨rfl, N0, rfl⟩
theorem own_d_method_2_code_113 : decode method_2_code 113 = .ok (.iload_n 0, 1) := by decide +kernel
theorem own_d_method_2_code_114 : decode method_2_code 114 = .ok (.bipush 12, 2) := by decide +kernel
theorem own_d_method_2_code_116 : decode method_2_code 116 = .ok (.if_icmp .ne 7, 3) := by decide +kernel
theorem own_d_method_2_code_119 : decode method_2_code 119 = .ok (.getstatic 46, 3) := by decide +kernel
theorem own_d_method_2_code_122 : decode method_2_code 122 = .ok (.areturn, 1) := by decide +kernel
theorem own_ef_rm25 (m : MethodId) (p1 : Int32) (A : Nat → Addr) (K : Nat → ClassId)  : entryFrame m #[(.int (12 : Int32))] 1 = mkF m 0 #[.val (.int (12 : Int32))] [] := by first | (simp [entryFrame, mkF, argsToLocals, Value.category, maxLocals]; done) | rfl
set_option maxRecDepth 65536 in
set_option maxHeartbeats 40000000 in
theorem rm25 (l : Launch) (Z : State) (a0 : Array Value) (hw : ∀ d ∈ tables_1, d.before a0 Z = true) (ws : List Jvm.Cond) (h0 : Heap) (n0 : Nat) (p1 : Int32) (A : Nat → Addr) (K : Nat → ClassId)  (EN : own_St Z A K) (OL0 : Old Z n0 h0) :
    MetFree l own_m1 (head1 (Jvm.Cond.code own_m1 method_2_code 1 (some (.object "com/example/measurewright/measurewright/Relation")) :: ws) ({ frames := 0, cells := 0, slots := 0, locals := 0 } : Room)) (fun a U => a = #[(.int (12 : Int32))] ∧ Z.Warmed39 U.vm ∧ U.heap = h0) (fun _ _ _ _ _ => True) (fun _ U o U' => ∃ v L, o = .returned v ∧ (PQ (some (.ref (A 12))) h0 n0) v U'.heap L ∧ FrameEnd U o U' L ({ frames := 0, cells := 0, slots := 0, locals := 0 } : Room).cells ({ frames := 0, cells := 0, slots := 0, locals := 0 } : Room).slots) := by
  refine MetFree.of_bodySF (plainFor_of_name own_pn0) hisR ?_
  intro p e s m args below meth c s₁ Bd hml0 hP hK
  obtain ⟨rfl, hZ, hh⟩ := hP
  have hx := Bd.exec
  have hby := Bd.bytes
  have hml : c.maxLocals = 1 := hml0
  have hown : s.vm.findClass "com/example/measurewright/measurewright/RelationTakesQuantityPinLaw" = some m.cls := findClass_of_methodNamed Bd.named
  have hnm := (name_of_methodNamed Bd.named Bd.method).1
  have X0 : Stand p l e ({ frames := 0, cells := 0, slots := 0, locals := 0 } : Room) s m #[(.int (12 : Int32))] below meth c s₁ [] 0 0 := Stand.of_body Bd
  have e0 : s₁.heap = h0 := by rw [← hh, Bd.state]; rfl
  have N0 := Fr.nil n0
  have pre0 : ∀ t, Steps p.tables e below (s₁.setTop (mkF m 0 #[.val (.int (12 : Int32))] [])) t → Steps p.tables e below (s₁.setTop (entryFrame m #[(.int (12 : Int32))] 1)) t := fun t k => castTop (own_ef_rm25 m p1 A K ) k
  have KK0 : Keep h0 h0 [] := Keep.refl _ _
  obtain ⟨T74, X74, e74, st74⟩ := getS2 X0 hx hZ hown (host := "") (Or.inl (hw _ (List.mem_of_getElem? (i := 37) rfl))) Via.refl e0 (EN.2.2.2.1.1.ext OL0.2) (g := (mkF m 119 #[.val (.int (12 : Int32))] [])) rfl (hb hby own_d_method_2_code_119)
  obtain ⟨fs, hr, hrun, hended, hW, hsame⟩ := X74.leave (v := some (.ref (A 12))) (fun h => by rw [Bd.returns] at h; cases h)
  refine ⟨_, _, pre0 _ ?_, hrun, hended, _, _, rfl, ?_, ⟨_, rfl⟩, hW, hsame.mono (by decide) (by decide)⟩
  · show Steps p.tables e below (s₁.setTop (mkF m 0 #[.val (.int (12 : Int32))] [])) _
    refine XS.iloadN X0.here hx rfl (hb hby own_d_method_2_code_0) rfl ?_
    show Steps p.tables e below (s₁.setTop (mkF m 1 #[.val (.int (12 : Int32))] [(.int (12 : Int32))])) _
    refine XS.ifYes X0.here hx rfl (pc0 := 1) (pc' := 8) rfl (hb hby own_d_method_2_code_1) rfl ((if0 _ _).trans (feq (by decide : ¬ ((12 : Int32) = (0 : Int32)))).2) (by decide) (by decide) ?_
    show Steps p.tables e below (s₁.setTop (mkF m 8 #[.val (.int (12 : Int32))] [])) _
    refine XS.iloadN X0.here hx rfl (hb hby own_d_method_2_code_8) rfl ?_
    show Steps p.tables e below (s₁.setTop (mkF m 9 #[.val (.int (12 : Int32))] [(.int (12 : Int32))])) _
    refine XS.iconst X0.here hx rfl (hb hby own_d_method_2_code_9) ?_
    show Steps p.tables e below (s₁.setTop (mkF m 10 #[.val (.int (12 : Int32))] [(.int (1 : Int32)), (.int (12 : Int32))])) _
    refine XS.icmpYes X0.here hx rfl (pc0 := 10) (pc' := 17) rfl (hb hby own_d_method_2_code_10) rfl (feq (by decide : ¬ ((12 : Int32) = (1 : Int32)))).2 (by decide) (by decide) ?_
    show Steps p.tables e below (s₁.setTop (mkF m 17 #[.val (.int (12 : Int32))] [])) _
    refine XS.iloadN X0.here hx rfl (hb hby own_d_method_2_code_17) rfl ?_
    show Steps p.tables e below (s₁.setTop (mkF m 18 #[.val (.int (12 : Int32))] [(.int (12 : Int32))])) _
    refine XS.iconst X0.here hx rfl (hb hby own_d_method_2_code_18) ?_
    show Steps p.tables e below (s₁.setTop (mkF m 19 #[.val (.int (12 : Int32))] [(.int (2 : Int32)), (.int (12 : Int32))])) _
    refine XS.icmpYes X0.here hx rfl (pc0 := 19) (pc' := 26) rfl (hb hby own_d_method_2_code_19) rfl (feq (by decide : ¬ ((12 : Int32) = (2 : Int32)))).2 (by decide) (by decide) ?_
    show Steps p.tables e below (s₁.setTop (mkF m 26 #[.val (.int (12 : Int32))] [])) _
    refine XS.iloadN X0.here hx rfl (hb hby own_d_method_2_code_26) rfl ?_
    show Steps p.tables e below (s₁.setTop (mkF m 27 #[.val (.int (12 : Int32))] [(.int (12 : Int32))])) _
    refine XS.iconst X0.here hx rfl (hb hby own_d_method_2_code_27) ?_
    show Steps p.tables e below (s₁.setTop (mkF m 28 #[.val (.int (12 : Int32))] [(.int (3 : Int32)), (.int (12 : Int32))])) _
    refine XS.icmpYes X0.here hx rfl (pc0 := 28) (pc' := 35) rfl (hb hby own_d_method_2_code_28) rfl (feq (by decide : ¬ ((12 : Int32) = (3 : Int32)))).2 (by decide) (by decide) ?_
    show Steps p.tables e below (s₁.setTop (mkF m 35 #[.val (.int (12 : Int32))] [])) _
    refine XS.iloadN X0.here hx rfl (hb hby own_d_method_2_code_35) rfl ?_
    show Steps p.tables e below (s₁.setTop (mkF m 36 #[.val (.int (12 : Int32))] [(.int (12 : Int32))])) _
    refine XS.iconst X0.here hx rfl (hb hby own_d_method_2_code_36) ?_
    show Steps p.tables e below (s₁.setTop (mkF m 37 #[.val (.int (12 : Int32))] [(.int (4 : Int32)), (.int (12 : Int32))])) _
    refine XS.icmpYes X0.here hx rfl (pc0 := 37) (pc' := 44) rfl (hb hby own_d_method_2_code_37) rfl (feq (by decide : ¬ ((12 : Int32) = (4 : Int32)))).2 (by decide) (by decide) ?_
    show Steps p.tables e below (s₁.setTop (mkF m 44 #[.val (.int (12 : Int32))] [])) _
    refine XS.iloadN X0.here hx rfl (hb hby own_d_method_2_code_44) rfl ?_
    show Steps p.tables e below (s₁.setTop (mkF m 45 #[.val (.int (12 : Int32))] [(.int (12 : Int32))])) _
    refine XS.iconst X0.here hx rfl (hb hby own_d_method_2_code_45) ?_
    show Steps p.tables e below (s₁.setTop (mkF m 46 #[.val (.int (12 : Int32))] [(.int (5 : Int32)), (.int (12 : Int32))])) _
    refine XS.icmpYes X0.here hx rfl (pc0 := 46) (pc' := 53) rfl (hb hby own_d_method_2_code_46) rfl (feq (by decide : ¬ ((12 : Int32) = (5 : Int32)))).2 (by decide) (by decide) ?_
    show Steps p.tables e below (s₁.setTop (mkF m 53 #[.val (.int (12 : Int32))] [])) _
    refine XS.iloadN X0.here hx rfl (hb hby own_d_method_2_code_53) rfl ?_
    show Steps p.tables e below (s₁.setTop (mkF m 54 #[.val (.int (12 : Int32))] [(.int (12 : Int32))])) _
    refine XS.bipush X0.here hx rfl (hb hby own_d_method_2_code_54) ?_
    show Steps p.tables e below (s₁.setTop (mkF m 56 #[.val (.int (12 : Int32))] [(.int (6 : Int32)), (.int (12 : Int32))])) _
    refine XS.icmpYes X0.here hx rfl (pc0 := 56) (pc' := 63) rfl (hb hby own_d_method_2_code_56) rfl (feq (by decide : ¬ ((12 : Int32) = (6 : Int32)))).2 (by decide) (by decide) ?_
    show Steps p.tables e below (s₁.setTop (mkF m 63 #[.val (.int (12 : Int32))] [])) _
    refine XS.iloadN X0.here hx rfl (hb hby own_d_method_2_code_63) rfl ?_
    show Steps p.tables e below (s₁.setTop (mkF m 64 #[.val (.int (12 : Int32))] [(.int (12 : Int32))])) _
    refine XS.bipush X0.here hx rfl (hb hby own_d_method_2_code_64) ?_
    show Steps p.tables e below (s₁.setTop (mkF m 66 #[.val (.int (12 : Int32))] [(.int (7 : Int32)), (.int (12 : Int32))])) _
    refine XS.icmpYes X0.here hx rfl (pc0 := 66) (pc' := 73) rfl (hb hby own_d_method_2_code_66) rfl (feq (by decide : ¬ ((12 : Int32) = (7 : Int32)))).2 (by decide) (by decide) ?_
    show Steps p.tables e below (s₁.setTop (mkF m 73 #[.val (.int (12 : Int32))] [])) _
    refine XS.iloadN X0.here hx rfl (hb hby own_d_method_2_code_73) rfl ?_
    show Steps p.tables e below (s₁.setTop (mkF m 74 #[.val (.int (12 : Int32))] [(.int (12 : Int32))])) _
    refine XS.bipush X0.here hx rfl (hb hby own_d_method_2_code_74) ?_
    show Steps p.tables e below (s₁.setTop (mkF m 76 #[.val (.int (12 : Int32))] [(.int (8 : Int32)), (.int (12 : Int32))])) _
    refine XS.icmpYes X0.here hx rfl (pc0 := 76) (pc' := 83) rfl (hb hby own_d_method_2_code_76) rfl (feq (by decide : ¬ ((12 : Int32) = (8 : Int32)))).2 (by decide) (by decide) ?_
    show Steps p.tables e below (s₁.setTop (mkF m 83 #[.val (.int (12 : Int32))] [])) _
    refine XS.iloadN X0.here hx rfl (hb hby own_d_method_2_code_83) rfl ?_
    show Steps p.tables e below (s₁.setTop (mkF m 84 #[.val (.int (12 : Int32))] [(.int (12 : Int32))])) _
    refine XS.bipush X0.here hx rfl (hb hby own_d_method_2_code_84) ?_
    show Steps p.tables e below (s₁.setTop (mkF m 86 #[.val (.int (12 : Int32))] [(.int (9 : Int32)), (.int (12 : Int32))])) _
    refine XS.icmpYes X0.here hx rfl (pc0 := 86) (pc' := 93) rfl (hb hby own_d_method_2_code_86) rfl (feq (by decide : ¬ ((12 : Int32) = (9 : Int32)))).2 (by decide) (by decide) ?_
    show Steps p.tables e below (s₁.setTop (mkF m 93 #[.val (.int (12 : Int32))] [])) _
    refine XS.iloadN X0.here hx rfl (hb hby own_d_method_2_code_93) rfl ?_
    show Steps p.tables e below (s₁.setTop (mkF m 94 #[.val (.int (12 : Int32))] [(.int (12 : Int32))])) _
    refine XS.bipush X0.here hx rfl (hb hby own_d_method_2_code_94) ?_
    show Steps p.tables e below (s₁.setTop (mkF m 96 #[.val (.int (12 : Int32))] [(.int (10 : Int32)), (.int (12 : Int32))])) _
    refine XS.icmpYes X0.here hx rfl (pc0 := 96) (pc' := 103) rfl (hb hby own_d_method_2_code_96) rfl (feq (by decide : ¬ ((12 : Int32) = (10 : Int32)))).2 (by decide) (by decide) ?_
    show Steps p.tables e below (s₁.setTop (mkF m 103 #[.val (.int (12 : Int32))] [])) _
    refine XS.iloadN X0.here hx rfl (hb hby own_d_method_2_code_103) rfl ?_
    show Steps p.tables e below (s₁.setTop (mkF m 104 #[.val (.int (12 : Int32))] [(.int (12 : Int32))])) _
    refine XS.bipush X0.here hx rfl (hb hby own_d_method_2_code_104) ?_
    show Steps p.tables e below (s₁.setTop (mkF m 106 #[.val (.int (12 : Int32))] [(.int (11 : Int32)), (.int (12 : Int32))])) _
    refine XS.icmpYes X0.here hx rfl (pc0 := 106) (pc' := 113) rfl (hb hby own_d_method_2_code_106) rfl (feq (by decide : ¬ ((12 : Int32) = (11 : Int32)))).2 (by decide) (by decide) ?_
    show Steps p.tables e below (s₁.setTop (mkF m 113 #[.val (.int (12 : Int32))] [])) _
    refine XS.iloadN X0.here hx rfl (hb hby own_d_method_2_code_113) rfl ?_
    show Steps p.tables e below (s₁.setTop (mkF m 114 #[.val (.int (12 : Int32))] [(.int (12 : Int32))])) _
    refine XS.bipush X0.here hx rfl (hb hby own_d_method_2_code_114) ?_
    show Steps p.tables e below (s₁.setTop (mkF m 116 #[.val (.int (12 : Int32))] [(.int (12 : Int32)), (.int (12 : Int32))])) _
    refine XS.icmpNo X0.here hx rfl (hb hby own_d_method_2_code_116) rfl (teq (by decide : (12 : Int32) = (12 : Int32))).2 ?_
    show Steps p.tables e below (s₁.setTop (mkF m 119 #[.val (.int (12 : Int32))] [])) _
    refine st74 _ ?_
    show Steps p.tables e below (T74.setTop (mkF m 122 #[.val (.int (12 : Int32))] [(.ref (A 12))])) _
    exact retOut X74 hx Bd.returns rfl (Or.inr (Or.inr (Or.inr (Or.inr ⟨rfl, rfl, rfl⟩)))) (hb hby own_d_method_2_code_122) hr
  · show PQ (some (.ref (A 12))) h0 n0 _ T74.heap _
    rw [e74]
    exact ⟨rfl, N0, rfl⟩
theorem own_ef_rm26 (m : MethodId) (p1 : Int32) (A : Nat → Addr) (K : Nat → ClassId)  : entryFrame m #[(.ref (A 12))] 1 = mkF m 0 #[.val (.ref (A 12))] [] := by first | (simp [entryFrame, mkF, argsToLocals, Value.category, maxLocals]; done) | rfl
set_option maxRecDepth 65536 in
set_option maxHeartbeats 40000000 in
theorem rm26 (l : Launch) (Z : State) (a0 : Array Value) (hw : ∀ d ∈ tables_1, d.before a0 Z = true) (ws : List Jvm.Cond) (h0 : Heap) (n0 : Nat) (p1 : Int32) (A : Nat → Addr) (K : Nat → ClassId)  (EN : own_St Z A K) (OL0 : Old Z n0 h0) :
    MetFree l own_m0 (head1 (Jvm.Cond.code own_m0 prog_24_method_6_code 1 (some .boolean) :: ws) ({ frames := 0, cells := 0, slots := 0, locals := 0 } : Room)) (fun a U => a = #[(.ref (A 12))] ∧ Z.Warmed39 U.vm ∧ U.heap = h0) (fun _ _ _ _ _ => True) (fun _ U o U' => ∃ v L, o = .returned v ∧ (PQ (some (.int (1 : Int32))) h0 n0) v U'.heap L ∧ FrameEnd U o U' L ({ frames := 0, cells := 0, slots := 0, locals := 0 } : Room).cells ({ frames := 0, cells := 0, slots := 0, locals := 0 } : Room).slots) := by
  refine MetFree.of_bodySF (plainFor_of_name own_pn1) hisR ?_
  intro p e s m args below meth c s₁ Bd hml0 hP hK
  obtain ⟨rfl, hZ, hh⟩ := hP
  have hx := Bd.exec
  have hby := Bd.bytes
  have hml : c.maxLocals = 1 := hml0
  have hown : s.vm.findClass "com/example/measurewright/measurewright/Relation" = some m.cls := findClass_of_methodNamed Bd.named
  have hnm := (name_of_methodNamed Bd.named Bd.method).1
  have X0 : Stand p l e ({ frames := 0, cells := 0, slots := 0, locals := 0 } : Room) s m #[(.ref (A 12))] below meth c s₁ [] 0 0 := Stand.of_body Bd
  have e0 : s₁.heap = h0 := by rw [← hh, Bd.state]; rfl
  have N0 := Fr.nil n0
  have pre0 : ∀ t, Steps p.tables e below (s₁.setTop (mkF m 0 #[.val (.ref (A 12))] [])) t → Steps p.tables e below (s₁.setTop (entryFrame m #[(.ref (A 12))] 1)) t := fun t k => castTop (own_ef_rm26 m p1 A K ) k
  have KK0 : Keep h0 h0 [] := Keep.refl _ _
  obtain ⟨T78, X78, e78, st78⟩ := getF X0 hx hZ hown (host := "") (Or.inl (hw _ (List.mem_of_getElem? (i := 17) rfl))) Via.refl e0 (EN.2.2.2.2.2.2.1.2.2.1.ext OL0.2) (g := (mkF m 1 #[.val (.ref (A 12))] [(.ref (A 12))])) rfl rfl (hb hby own_d_prog_24_method_6_code_1)
  obtain ⟨fs, hr, hrun, hended, hW, hsame⟩ := X78.leave (v := some (.int (1 : Int32))) (fun h => by rw [Bd.returns] at h; cases h)
  refine ⟨_, _, pre0 _ ?_, hrun, hended, _, _, rfl, ?_, ⟨_, rfl⟩, hW, hsame.mono (by decide) (by decide)⟩
  · show Steps p.tables e below (s₁.setTop (mkF m 0 #[.val (.ref (A 12))] [])) _
    refine XS.aloadN X0.here hx rfl (hb hby own_d_prog_24_method_6_code_0) rfl rfl ?_
    show Steps p.tables e below (s₁.setTop (mkF m 1 #[.val (.ref (A 12))] [(.ref (A 12))])) _
    refine st78 _ ?_
    show Steps p.tables e below (T78.setTop (mkF m 4 #[.val (.ref (A 12))] [(.ref (A 25))])) _
    refine XS.ifnullNo X78.here hx rfl (hb hby own_d_prog_24_method_6_code_4) rfl ?_
    show Steps p.tables e below (T78.setTop (mkF m 7 #[.val (.ref (A 12))] [])) _
    refine XS.iconst X78.here hx rfl (hb hby own_d_prog_24_method_6_code_7) ?_
    show Steps p.tables e below (T78.setTop (mkF m 8 #[.val (.ref (A 12))] [(.int (1 : Int32))])) _
    refine XS.goto X78.here hx rfl (pc0 := 8) (pc' := 12) rfl (hb hby own_d_prog_24_method_6_code_8) (by decide) (by decide) ?_
    show Steps p.tables e below (T78.setTop (mkF m 12 #[.val (.ref (A 12))] [(.int (1 : Int32))])) _
    exact retN X78 hx (t := .boolean) Bd.returns (by simp) (hb hby own_d_prog_24_method_6_code_12) hr
  · show PQ (some (.int (1 : Int32))) h0 n0 _ T78.heap _
    rw [e78]
    exact ⟨rfl, N0, rfl⟩
theorem own_d_method_2_code_123 : decode method_2_code 123 = .ok (.iload_n 0, 1) := by decide +kernel
theorem own_d_method_2_code_124 : decode method_2_code 124 = .ok (.bipush 13, 2) := by decide +kernel
theorem own_d_method_2_code_126 : decode method_2_code 126 = .ok (.if_icmp .ne 7, 3) := by decide +kernel
theorem own_d_method_2_code_129 : decode method_2_code 129 = .ok (.getstatic 49, 3) := by decide +kernel
theorem own_d_method_2_code_132 : decode method_2_code 132 = .ok (.areturn, 1) := by decide +kernel
theorem own_ef_rm27 (m : MethodId) (p1 : Int32) (A : Nat → Addr) (K : Nat → ClassId)  : entryFrame m #[(.int (13 : Int32))] 1 = mkF m 0 #[.val (.int (13 : Int32))] [] := by first | (simp [entryFrame, mkF, argsToLocals, Value.category, maxLocals]; done) | rfl
set_option maxRecDepth 65536 in
set_option maxHeartbeats 40000000 in
theorem rm27 (l : Launch) (Z : State) (a0 : Array Value) (hw : ∀ d ∈ tables_1, d.before a0 Z = true) (ws : List Jvm.Cond) (h0 : Heap) (n0 : Nat) (p1 : Int32) (A : Nat → Addr) (K : Nat → ClassId)  (EN : own_St Z A K) (OL0 : Old Z n0 h0) :
    MetFree l own_m1 (head1 (Jvm.Cond.code own_m1 method_2_code 1 (some (.object "com/example/measurewright/measurewright/Relation")) :: ws) ({ frames := 0, cells := 0, slots := 0, locals := 0 } : Room)) (fun a U => a = #[(.int (13 : Int32))] ∧ Z.Warmed39 U.vm ∧ U.heap = h0) (fun _ _ _ _ _ => True) (fun _ U o U' => ∃ v L, o = .returned v ∧ (PQ (some (.ref (A 13))) h0 n0) v U'.heap L ∧ FrameEnd U o U' L ({ frames := 0, cells := 0, slots := 0, locals := 0 } : Room).cells ({ frames := 0, cells := 0, slots := 0, locals := 0 } : Room).slots) := by
  refine MetFree.of_bodySF (plainFor_of_name own_pn0) hisR ?_
  intro p e s m args below meth c s₁ Bd hml0 hP hK
  obtain ⟨rfl, hZ, hh⟩ := hP
  have hx := Bd.exec
  have hby := Bd.bytes
  have hml : c.maxLocals = 1 := hml0
  have hown : s.vm.findClass "com/example/measurewright/measurewright/RelationTakesQuantityPinLaw" = some m.cls := findClass_of_methodNamed Bd.named
  have hnm := (name_of_methodNamed Bd.named Bd.method).1
  have X0 : Stand p l e ({ frames := 0, cells := 0, slots := 0, locals := 0 } : Room) s m #[(.int (13 : Int32))] below meth c s₁ [] 0 0 := Stand.of_body Bd
  have e0 : s₁.heap = h0 := by rw [← hh, Bd.state]; rfl
  have N0 := Fr.nil n0
  have pre0 : ∀ t, Steps p.tables e below (s₁.setTop (mkF m 0 #[.val (.int (13 : Int32))] [])) t → Steps p.tables e below (s₁.setTop (entryFrame m #[(.int (13 : Int32))] 1)) t := fun t k => castTop (own_ef_rm27 m p1 A K ) k
  have KK0 : Keep h0 h0 [] := Keep.refl _ _
  obtain ⟨T80, X80, e80, st80⟩ := getS2 X0 hx hZ hown (host := "") (Or.inl (hw _ (List.mem_of_getElem? (i := 23) rfl))) Via.refl e0 (EN.2.2.2.1.2.2.1.ext OL0.2) (g := (mkF m 129 #[.val (.int (13 : Int32))] [])) rfl (hb hby own_d_method_2_code_129)
  obtain ⟨fs, hr, hrun, hended, hW, hsame⟩ := X80.leave (v := some (.ref (A 13))) (fun h => by rw [Bd.returns] at h; cases h)
  refine ⟨_, _, pre0 _ ?_, hrun, hended, _, _, rfl, ?_, ⟨_, rfl⟩, hW, hsame.mono (by decide) (by decide)⟩
  · show Steps p.tables e below (s₁.setTop (mkF m 0 #[.val (.int (13 : Int32))] [])) _
    refine XS.iloadN X0.here hx rfl (hb hby own_d_method_2_code_0) rfl ?_
    show Steps p.tables e below (s₁.setTop (mkF m 1 #[.val (.int (13 : Int32))] [(.int (13 : Int32))])) _
    refine XS.ifYes X0.here hx rfl (pc0 := 1) (pc' := 8) rfl (hb hby own_d_method_2_code_1) rfl ((if0 _ _).trans (feq (by decide : ¬ ((13 : Int32) = (0 : Int32)))).2) (by decide) (by decide) ?_
    show Steps p.tables e below (s₁.setTop (mkF m 8 #[.val (.int (13 : Int32))] [])) _
    refine XS.iloadN X0.here hx rfl (hb hby own_d_method_2_code_8) rfl ?_
    show Steps p.tables e below (s₁.setTop (mkF m 9 #[.val (.int (13 : Int32))] [(.int (13 : Int32))])) _
    refine XS.iconst X0.here hx rfl (hb hby own_d_method_2_code_9) ?_
    show Steps p.tables e below (s₁.setTop (mkF m 10 #[.val (.int (13 : Int32))] [(.int (1 : Int32)), (.int (13 : Int32))])) _
    refine XS.icmpYes X0.here hx rfl (pc0 := 10) (pc' := 17) rfl (hb hby own_d_method_2_code_10) rfl (feq (by decide : ¬ ((13 : Int32) = (1 : Int32)))).2 (by decide) (by decide) ?_
    show Steps p.tables e below (s₁.setTop (mkF m 17 #[.val (.int (13 : Int32))] [])) _
    refine XS.iloadN X0.here hx rfl (hb hby own_d_method_2_code_17) rfl ?_
    show Steps p.tables e below (s₁.setTop (mkF m 18 #[.val (.int (13 : Int32))] [(.int (13 : Int32))])) _
    refine XS.iconst X0.here hx rfl (hb hby own_d_method_2_code_18) ?_
    show Steps p.tables e below (s₁.setTop (mkF m 19 #[.val (.int (13 : Int32))] [(.int (2 : Int32)), (.int (13 : Int32))])) _
    refine XS.icmpYes X0.here hx rfl (pc0 := 19) (pc' := 26) rfl (hb hby own_d_method_2_code_19) rfl (feq (by decide : ¬ ((13 : Int32) = (2 : Int32)))).2 (by decide) (by decide) ?_
    show Steps p.tables e below (s₁.setTop (mkF m 26 #[.val (.int (13 : Int32))] [])) _
    refine XS.iloadN X0.here hx rfl (hb hby own_d_method_2_code_26) rfl ?_
    show Steps p.tables e below (s₁.setTop (mkF m 27 #[.val (.int (13 : Int32))] [(.int (13 : Int32))])) _
    refine XS.iconst X0.here hx rfl (hb hby own_d_method_2_code_27) ?_
    show Steps p.tables e below (s₁.setTop (mkF m 28 #[.val (.int (13 : Int32))] [(.int (3 : Int32)), (.int (13 : Int32))])) _
    refine XS.icmpYes X0.here hx rfl (pc0 := 28) (pc' := 35) rfl (hb hby own_d_method_2_code_28) rfl (feq (by decide : ¬ ((13 : Int32) = (3 : Int32)))).2 (by decide) (by decide) ?_
    show Steps p.tables e below (s₁.setTop (mkF m 35 #[.val (.int (13 : Int32))] [])) _
    refine XS.iloadN X0.here hx rfl (hb hby own_d_method_2_code_35) rfl ?_
    show Steps p.tables e below (s₁.setTop (mkF m 36 #[.val (.int (13 : Int32))] [(.int (13 : Int32))])) _
    refine XS.iconst X0.here hx rfl (hb hby own_d_method_2_code_36) ?_
    show Steps p.tables e below (s₁.setTop (mkF m 37 #[.val (.int (13 : Int32))] [(.int (4 : Int32)), (.int (13 : Int32))])) _
    refine XS.icmpYes X0.here hx rfl (pc0 := 37) (pc' := 44) rfl (hb hby own_d_method_2_code_37) rfl (feq (by decide : ¬ ((13 : Int32) = (4 : Int32)))).2 (by decide) (by decide) ?_
    show Steps p.tables e below (s₁.setTop (mkF m 44 #[.val (.int (13 : Int32))] [])) _
    refine XS.iloadN X0.here hx rfl (hb hby own_d_method_2_code_44) rfl ?_
    show Steps p.tables e below (s₁.setTop (mkF m 45 #[.val (.int (13 : Int32))] [(.int (13 : Int32))])) _
    refine XS.iconst X0.here hx rfl (hb hby own_d_method_2_code_45) ?_
    show Steps p.tables e below (s₁.setTop (mkF m 46 #[.val (.int (13 : Int32))] [(.int (5 : Int32)), (.int (13 : Int32))])) _
    refine XS.icmpYes X0.here hx rfl (pc0 := 46) (pc' := 53) rfl (hb hby own_d_method_2_code_46) rfl (feq (by decide : ¬ ((13 : Int32) = (5 : Int32)))).2 (by decide) (by decide) ?_
    show Steps p.tables e below (s₁.setTop (mkF m 53 #[.val (.int (13 : Int32))] [])) _
    refine XS.iloadN X0.here hx rfl (hb hby own_d_method_2_code_53) rfl ?_
    show Steps p.tables e below (s₁.setTop (mkF m 54 #[.val (.int (13 : Int32))] [(.int (13 : Int32))])) _
    refine XS.bipush X0.here hx rfl (hb hby own_d_method_2_code_54) ?_
    show Steps p.tables e below (s₁.setTop (mkF m 56 #[.val (.int (13 : Int32))] [(.int (6 : Int32)), (.int (13 : Int32))])) _
    refine XS.icmpYes X0.here hx rfl (pc0 := 56) (pc' := 63) rfl (hb hby own_d_method_2_code_56) rfl (feq (by decide : ¬ ((13 : Int32) = (6 : Int32)))).2 (by decide) (by decide) ?_
    show Steps p.tables e below (s₁.setTop (mkF m 63 #[.val (.int (13 : Int32))] [])) _
    refine XS.iloadN X0.here hx rfl (hb hby own_d_method_2_code_63) rfl ?_
    show Steps p.tables e below (s₁.setTop (mkF m 64 #[.val (.int (13 : Int32))] [(.int (13 : Int32))])) _
    refine XS.bipush X0.here hx rfl (hb hby own_d_method_2_code_64) ?_
    show Steps p.tables e below (s₁.setTop (mkF m 66 #[.val (.int (13 : Int32))] [(.int (7 : Int32)), (.int (13 : Int32))])) _
    refine XS.icmpYes X0.here hx rfl (pc0 := 66) (pc' := 73) rfl (hb hby own_d_method_2_code_66) rfl (feq (by decide : ¬ ((13 : Int32) = (7 : Int32)))).2 (by decide) (by decide) ?_
    show Steps p.tables e below (s₁.setTop (mkF m 73 #[.val (.int (13 : Int32))] [])) _
    refine XS.iloadN X0.here hx rfl (hb hby own_d_method_2_code_73) rfl ?_
    show Steps p.tables e below (s₁.setTop (mkF m 74 #[.val (.int (13 : Int32))] [(.int (13 : Int32))])) _
    refine XS.bipush X0.here hx rfl (hb hby own_d_method_2_code_74) ?_
    show Steps p.tables e below (s₁.setTop (mkF m 76 #[.val (.int (13 : Int32))] [(.int (8 : Int32)), (.int (13 : Int32))])) _
    refine XS.icmpYes X0.here hx rfl (pc0 := 76) (pc' := 83) rfl (hb hby own_d_method_2_code_76) rfl (feq (by decide : ¬ ((13 : Int32) = (8 : Int32)))).2 (by decide) (by decide) ?_
    show Steps p.tables e below (s₁.setTop (mkF m 83 #[.val (.int (13 : Int32))] [])) _
    refine XS.iloadN X0.here hx rfl (hb hby own_d_method_2_code_83) rfl ?_
    show Steps p.tables e below (s₁.setTop (mkF m 84 #[.val (.int (13 : Int32))] [(.int (13 : Int32))])) _
    refine XS.bipush X0.here hx rfl (hb hby own_d_method_2_code_84) ?_
    show Steps p.tables e below (s₁.setTop (mkF m 86 #[.val (.int (13 : Int32))] [(.int (9 : Int32)), (.int (13 : Int32))])) _
    refine XS.icmpYes X0.here hx rfl (pc0 := 86) (pc' := 93) rfl (hb hby own_d_method_2_code_86) rfl (feq (by decide : ¬ ((13 : Int32) = (9 : Int32)))).2 (by decide) (by decide) ?_
    show Steps p.tables e below (s₁.setTop (mkF m 93 #[.val (.int (13 : Int32))] [])) _
    refine XS.iloadN X0.here hx rfl (hb hby own_d_method_2_code_93) rfl ?_
    show Steps p.tables e below (s₁.setTop (mkF m 94 #[.val (.int (13 : Int32))] [(.int (13 : Int32))])) _
    refine XS.bipush X0.here hx rfl (hb hby own_d_method_2_code_94) ?_
    show Steps p.tables e below (s₁.setTop (mkF m 96 #[.val (.int (13 : Int32))] [(.int (10 : Int32)), (.int (13 : Int32))])) _
    refine XS.icmpYes X0.here hx rfl (pc0 := 96) (pc' := 103) rfl (hb hby own_d_method_2_code_96) rfl (feq (by decide : ¬ ((13 : Int32) = (10 : Int32)))).2 (by decide) (by decide) ?_
    show Steps p.tables e below (s₁.setTop (mkF m 103 #[.val (.int (13 : Int32))] [])) _
    refine XS.iloadN X0.here hx rfl (hb hby own_d_method_2_code_103) rfl ?_
    show Steps p.tables e below (s₁.setTop (mkF m 104 #[.val (.int (13 : Int32))] [(.int (13 : Int32))])) _
    refine XS.bipush X0.here hx rfl (hb hby own_d_method_2_code_104) ?_
    show Steps p.tables e below (s₁.setTop (mkF m 106 #[.val (.int (13 : Int32))] [(.int (11 : Int32)), (.int (13 : Int32))])) _
    refine XS.icmpYes X0.here hx rfl (pc0 := 106) (pc' := 113) rfl (hb hby own_d_method_2_code_106) rfl (feq (by decide : ¬ ((13 : Int32) = (11 : Int32)))).2 (by decide) (by decide) ?_
    show Steps p.tables e below (s₁.setTop (mkF m 113 #[.val (.int (13 : Int32))] [])) _
    refine XS.iloadN X0.here hx rfl (hb hby own_d_method_2_code_113) rfl ?_
    show Steps p.tables e below (s₁.setTop (mkF m 114 #[.val (.int (13 : Int32))] [(.int (13 : Int32))])) _
    refine XS.bipush X0.here hx rfl (hb hby own_d_method_2_code_114) ?_
    show Steps p.tables e below (s₁.setTop (mkF m 116 #[.val (.int (13 : Int32))] [(.int (12 : Int32)), (.int (13 : Int32))])) _
    refine XS.icmpYes X0.here hx rfl (pc0 := 116) (pc' := 123) rfl (hb hby own_d_method_2_code_116) rfl (feq (by decide : ¬ ((13 : Int32) = (12 : Int32)))).2 (by decide) (by decide) ?_
    show Steps p.tables e below (s₁.setTop (mkF m 123 #[.val (.int (13 : Int32))] [])) _
    refine XS.iloadN X0.here hx rfl (hb hby own_d_method_2_code_123) rfl ?_
    show Steps p.tables e below (s₁.setTop (mkF m 124 #[.val (.int (13 : Int32))] [(.int (13 : Int32))])) _
    refine XS.bipush X0.here hx rfl (hb hby own_d_method_2_code_124) ?_
    show Steps p.tables e below (s₁.setTop (mkF m 126 #[.val (.int (13 : Int32))] [(.int (13 : Int32)), (.int (13 : Int32))])) _
    refine XS.icmpNo X0.here hx rfl (hb hby own_d_method_2_code_126) rfl (teq (by decide : (13 : Int32) = (13 : Int32))).2 ?_
    show Steps p.tables e below (s₁.setTop (mkF m 129 #[.val (.int (13 : Int32))] [])) _
    refine st80 _ ?_
    show Steps p.tables e below (T80.setTop (mkF m 132 #[.val (.int (13 : Int32))] [(.ref (A 13))])) _
    exact retOut X80 hx Bd.returns rfl (Or.inr (Or.inr (Or.inr (Or.inr ⟨rfl, rfl, rfl⟩)))) (hb hby own_d_method_2_code_132) hr
  · show PQ (some (.ref (A 13))) h0 n0 _ T80.heap _
    rw [e80]
    exact ⟨rfl, N0, rfl⟩
theorem own_ef_rm28 (m : MethodId) (p1 : Int32) (A : Nat → Addr) (K : Nat → ClassId)  : entryFrame m #[(.ref (A 13))] 1 = mkF m 0 #[.val (.ref (A 13))] [] := by first | (simp [entryFrame, mkF, argsToLocals, Value.category, maxLocals]; done) | rfl
set_option maxRecDepth 65536 in
set_option maxHeartbeats 40000000 in
theorem rm28 (l : Launch) (Z : State) (a0 : Array Value) (hw : ∀ d ∈ tables_1, d.before a0 Z = true) (ws : List Jvm.Cond) (h0 : Heap) (n0 : Nat) (p1 : Int32) (A : Nat → Addr) (K : Nat → ClassId)  (EN : own_St Z A K) (OL0 : Old Z n0 h0) :
    MetFree l own_m0 (head1 (Jvm.Cond.code own_m0 prog_24_method_6_code 1 (some .boolean) :: ws) ({ frames := 0, cells := 0, slots := 0, locals := 0 } : Room)) (fun a U => a = #[(.ref (A 13))] ∧ Z.Warmed39 U.vm ∧ U.heap = h0) (fun _ _ _ _ _ => True) (fun _ U o U' => ∃ v L, o = .returned v ∧ (PQ (some (.int (1 : Int32))) h0 n0) v U'.heap L ∧ FrameEnd U o U' L ({ frames := 0, cells := 0, slots := 0, locals := 0 } : Room).cells ({ frames := 0, cells := 0, slots := 0, locals := 0 } : Room).slots) := by
  refine MetFree.of_bodySF (plainFor_of_name own_pn1) hisR ?_
  intro p e s m args below meth c s₁ Bd hml0 hP hK
  obtain ⟨rfl, hZ, hh⟩ := hP
  have hx := Bd.exec
  have hby := Bd.bytes
  have hml : c.maxLocals = 1 := hml0
  have hown : s.vm.findClass "com/example/measurewright/measurewright/Relation" = some m.cls := findClass_of_methodNamed Bd.named
  have hnm := (name_of_methodNamed Bd.named Bd.method).1
  have X0 : Stand p l e ({ frames := 0, cells := 0, slots := 0, locals := 0 } : Room) s m #[(.ref (A 13))] below meth c s₁ [] 0 0 := Stand.of_body Bd
  have e0 : s₁.heap = h0 := by rw [← hh, Bd.state]; rfl
  have N0 := Fr.nil n0
  have pre0 : ∀ t, Steps p.tables e below (s₁.setTop (mkF m 0 #[.val (.ref (A 13))] [])) t → Steps p.tables e below (s₁.setTop (entryFrame m #[(.ref (A 13))] 1)) t := fun t k => castTop (own_ef_rm28 m p1 A K ) k
  have KK0 : Keep h0 h0 [] := Keep.refl _ _
  obtain ⟨T84, X84, e84, st84⟩ := getF X0 hx hZ hown (host := "") (Or.inl (hw _ (List.mem_of_getElem? (i := 17) rfl))) Via.refl e0 (EN.2.2.2.2.1.2.2.2.2.1.ext OL0.2) (g := (mkF m 1 #[.val (.ref (A 13))] [(.ref (A 13))])) rfl rfl (hb hby own_d_prog_24_method_6_code_1)
  obtain ⟨fs, hr, hrun, hended, hW, hsame⟩ := X84.leave (v := some (.int (1 : Int32))) (fun h => by rw [Bd.returns] at h; cases h)
  refine ⟨_, _, pre0 _ ?_, hrun, hended, _, _, rfl, ?_, ⟨_, rfl⟩, hW, hsame.mono (by decide) (by decide)⟩
  · show Steps p.tables e below (s₁.setTop (mkF m 0 #[.val (.ref (A 13))] [])) _
    refine XS.aloadN X0.here hx rfl (hb hby own_d_prog_24_method_6_code_0) rfl rfl ?_
    show Steps p.tables e below (s₁.setTop (mkF m 1 #[.val (.ref (A 13))] [(.ref (A 13))])) _
    refine st84 _ ?_
    show Steps p.tables e below (T84.setTop (mkF m 4 #[.val (.ref (A 13))] [(.ref (A 18))])) _
    refine XS.ifnullNo X84.here hx rfl (hb hby own_d_prog_24_method_6_code_4) rfl ?_
    show Steps p.tables e below (T84.setTop (mkF m 7 #[.val (.ref (A 13))] [])) _
    refine XS.iconst X84.here hx rfl (hb hby own_d_prog_24_method_6_code_7) ?_
    show Steps p.tables e below (T84.setTop (mkF m 8 #[.val (.ref (A 13))] [(.int (1 : Int32))])) _
    refine XS.goto X84.here hx rfl (pc0 := 8) (pc' := 12) rfl (hb hby own_d_prog_24_method_6_code_8) (by decide) (by decide) ?_
    show Steps p.tables e below (T84.setTop (mkF m 12 #[.val (.ref (A 13))] [(.int (1 : Int32))])) _
    exact retN X84 hx (t := .boolean) Bd.returns (by simp) (hb hby own_d_prog_24_method_6_code_12) hr
  · show PQ (some (.int (1 : Int32))) h0 n0 _ T84.heap _
    rw [e84]
    exact ⟨rfl, N0, rfl⟩
theorem own_d_method_2_code_133 : decode method_2_code 133 = .ok (.getstatic 52, 3) := by decide +kernel
theorem own_d_method_2_code_136 : decode method_2_code 136 = .ok (.areturn, 1) := by decide +kernel
theorem own_ef_rm29 (m : MethodId) (p1 : Int32) (A : Nat → Addr) (K : Nat → ClassId)  : entryFrame m #[(.int (14 : Int32))] 1 = mkF m 0 #[.val (.int (14 : Int32))] [] := by first | (simp [entryFrame, mkF, argsToLocals, Value.category, maxLocals]; done) | rfl
set_option maxRecDepth 65536 in
set_option maxHeartbeats 40000000 in
theorem rm29 (l : Launch) (Z : State) (a0 : Array Value) (hw : ∀ d ∈ tables_1, d.before a0 Z = true) (ws : List Jvm.Cond) (h0 : Heap) (n0 : Nat) (p1 : Int32) (A : Nat → Addr) (K : Nat → ClassId)  (EN : own_St Z A K) (OL0 : Old Z n0 h0) :
    MetFree l own_m1 (head1 (Jvm.Cond.code own_m1 method_2_code 1 (some (.object "com/example/measurewright/measurewright/Relation")) :: ws) ({ frames := 0, cells := 0, slots := 0, locals := 0 } : Room)) (fun a U => a = #[(.int (14 : Int32))] ∧ Z.Warmed39 U.vm ∧ U.heap = h0) (fun _ _ _ _ _ => True) (fun _ U o U' => ∃ v L, o = .returned v ∧ (PQ (some (.ref (A 14))) h0 n0) v U'.heap L ∧ FrameEnd U o U' L ({ frames := 0, cells := 0, slots := 0, locals := 0 } : Room).cells ({ frames := 0, cells := 0, slots := 0, locals := 0 } : Room).slots) := by
  refine MetFree.of_bodySF (plainFor_of_name own_pn0) hisR ?_
  intro p e s m args below meth c s₁ Bd hml0 hP hK
  obtain ⟨rfl, hZ, hh⟩ := hP
  have hx := Bd.exec
  have hby := Bd.bytes
  have hml : c.maxLocals = 1 := hml0
  have hown : s.vm.findClass "com/example/measurewright/measurewright/RelationTakesQuantityPinLaw" = some m.cls := findClass_of_methodNamed Bd.named
  have hnm := (name_of_methodNamed Bd.named Bd.method).1
  have X0 : Stand p l e ({ frames := 0, cells := 0, slots := 0, locals := 0 } : Room) s m #[(.int (14 : Int32))] below meth c s₁ [] 0 0 := Stand.of_body Bd
  have e0 : s₁.heap = h0 := by rw [← hh, Bd.state]; rfl
  have N0 := Fr.nil n0
  have pre0 : ∀ t, Steps p.tables e below (s₁.setTop (mkF m 0 #[.val (.int (14 : Int32))] [])) t → Steps p.tables e below (s₁.setTop (entryFrame m #[(.int (14 : Int32))] 1)) t := fun t k => castTop (own_ef_rm29 m p1 A K ) k
  have KK0 : Keep h0 h0 [] := Keep.refl _ _
  obtain ⟨T86, X86, e86, st86⟩ := getS2 X0 hx hZ hown (host := "") (Or.inl (hw _ (List.mem_of_getElem? (i := 10) rfl))) Via.refl e0 (EN.2.2.2.1.2.2.2.2.1.ext OL0.2) (g := (mkF m 133 #[.val (.int (14 : Int32))] [])) rfl (hb hby own_d_method_2_code_133)
  obtain ⟨fs, hr, hrun, hended, hW, hsame⟩ := X86.leave (v := some (.ref (A 14))) (fun h => by rw [Bd.returns] at h; cases h)
  refine ⟨_, _, pre0 _ ?_, hrun, hended, _, _, rfl, ?_, ⟨_, rfl⟩, hW, hsame.mono (by decide) (by decide)⟩
  · show Steps p.tables e below (s₁.setTop (mkF m 0 #[.val (.int (14 : Int32))] [])) _
    refine XS.iloadN X0.here hx rfl (hb hby own_d_method_2_code_0) rfl ?_
    show Steps p.tables e below (s₁.setTop (mkF m 1 #[.val (.int (14 : Int32))] [(.int (14 : Int32))])) _
    refine XS.ifYes X0.here hx rfl (pc0 := 1) (pc' := 8) rfl (hb hby own_d_method_2_code_1) rfl ((if0 _ _).trans (feq (by decide : ¬ ((14 : Int32) = (0 : Int32)))).2) (by decide) (by decide) ?_
    show Steps p.tables e below (s₁.setTop (mkF m 8 #[.val (.int (14 : Int32))] [])) _
    refine XS.iloadN X0.here hx rfl (hb hby own_d_method_2_code_8) rfl ?_
    show Steps p.tables e below (s₁.setTop (mkF m 9 #[.val (.int (14 : Int32))] [(.int (14 : Int32))])) _
    refine XS.iconst X0.here hx rfl (hb hby own_d_method_2_code_9) ?_
    show Steps p.tables e below (s₁.setTop (mkF m 10 #[.val (.int (14 : Int32))] [(.int (1 : Int32)), (.int (14 : Int32))])) _
    refine XS.icmpYes X0.here hx rfl (pc0 := 10) (pc' := 17) rfl (hb hby own_d_method_2_code_10) rfl (feq (by decide : ¬ ((14 : Int32) = (1 : Int32)))).2 (by decide) (by decide) ?_
    show Steps p.tables e below (s₁.setTop (mkF m 17 #[.val (.int (14 : Int32))] [])) _
    refine XS.iloadN X0.here hx rfl (hb hby own_d_method_2_code_17) rfl ?_
    show Steps p.tables e below (s₁.setTop (mkF m 18 #[.val (.int (14 : Int32))] [(.int (14 : Int32))])) _
    refine XS.iconst X0.here hx rfl (hb hby own_d_method_2_code_18) ?_
    show Steps p.tables e below (s₁.setTop (mkF m 19 #[.val (.int (14 : Int32))] [(.int (2 : Int32)), (.int (14 : Int32))])) _
    refine XS.icmpYes X0.here hx rfl (pc0 := 19) (pc' := 26) rfl (hb hby own_d_method_2_code_19) rfl (feq (by decide : ¬ ((14 : Int32) = (2 : Int32)))).2 (by decide) (by decide) ?_
    show Steps p.tables e below (s₁.setTop (mkF m 26 #[.val (.int (14 : Int32))] [])) _
    refine XS.iloadN X0.here hx rfl (hb hby own_d_method_2_code_26) rfl ?_
    show Steps p.tables e below (s₁.setTop (mkF m 27 #[.val (.int (14 : Int32))] [(.int (14 : Int32))])) _
    refine XS.iconst X0.here hx rfl (hb hby own_d_method_2_code_27) ?_
    show Steps p.tables e below (s₁.setTop (mkF m 28 #[.val (.int (14 : Int32))] [(.int (3 : Int32)), (.int (14 : Int32))])) _
    refine XS.icmpYes X0.here hx rfl (pc0 := 28) (pc' := 35) rfl (hb hby own_d_method_2_code_28) rfl (feq (by decide : ¬ ((14 : Int32) = (3 : Int32)))).2 (by decide) (by decide) ?_
    show Steps p.tables e below (s₁.setTop (mkF m 35 #[.val (.int (14 : Int32))] [])) _
    refine XS.iloadN X0.here hx rfl (hb hby own_d_method_2_code_35) rfl ?_
    show Steps p.tables e below (s₁.setTop (mkF m 36 #[.val (.int (14 : Int32))] [(.int (14 : Int32))])) _
    refine XS.iconst X0.here hx rfl (hb hby own_d_method_2_code_36) ?_
    show Steps p.tables e below (s₁.setTop (mkF m 37 #[.val (.int (14 : Int32))] [(.int (4 : Int32)), (.int (14 : Int32))])) _
    refine XS.icmpYes X0.here hx rfl (pc0 := 37) (pc' := 44) rfl (hb hby own_d_method_2_code_37) rfl (feq (by decide : ¬ ((14 : Int32) = (4 : Int32)))).2 (by decide) (by decide) ?_
    show Steps p.tables e below (s₁.setTop (mkF m 44 #[.val (.int (14 : Int32))] [])) _
    refine XS.iloadN X0.here hx rfl (hb hby own_d_method_2_code_44) rfl ?_
    show Steps p.tables e below (s₁.setTop (mkF m 45 #[.val (.int (14 : Int32))] [(.int (14 : Int32))])) _
    refine XS.iconst X0.here hx rfl (hb hby own_d_method_2_code_45) ?_
    show Steps p.tables e below (s₁.setTop (mkF m 46 #[.val (.int (14 : Int32))] [(.int (5 : Int32)), (.int (14 : Int32))])) _
    refine XS.icmpYes X0.here hx rfl (pc0 := 46) (pc' := 53) rfl (hb hby own_d_method_2_code_46) rfl (feq (by decide : ¬ ((14 : Int32) = (5 : Int32)))).2 (by decide) (by decide) ?_
    show Steps p.tables e below (s₁.setTop (mkF m 53 #[.val (.int (14 : Int32))] [])) _
    refine XS.iloadN X0.here hx rfl (hb hby own_d_method_2_code_53) rfl ?_
    show Steps p.tables e below (s₁.setTop (mkF m 54 #[.val (.int (14 : Int32))] [(.int (14 : Int32))])) _
    refine XS.bipush X0.here hx rfl (hb hby own_d_method_2_code_54) ?_
    show Steps p.tables e below (s₁.setTop (mkF m 56 #[.val (.int (14 : Int32))] [(.int (6 : Int32)), (.int (14 : Int32))])) _
    refine XS.icmpYes X0.here hx rfl (pc0 := 56) (pc' := 63) rfl (hb hby own_d_method_2_code_56) rfl (feq (by decide : ¬ ((14 : Int32) = (6 : Int32)))).2 (by decide) (by decide) ?_
    show Steps p.tables e below (s₁.setTop (mkF m 63 #[.val (.int (14 : Int32))] [])) _
    refine XS.iloadN X0.here hx rfl (hb hby own_d_method_2_code_63) rfl ?_
    show Steps p.tables e below (s₁.setTop (mkF m 64 #[.val (.int (14 : Int32))] [(.int (14 : Int32))])) _
    refine XS.bipush X0.here hx rfl (hb hby own_d_method_2_code_64) ?_
    show Steps p.tables e below (s₁.setTop (mkF m 66 #[.val (.int (14 : Int32))] [(.int (7 : Int32)), (.int (14 : Int32))])) _
    refine XS.icmpYes X0.here hx rfl (pc0 := 66) (pc' := 73) rfl (hb hby own_d_method_2_code_66) rfl (feq (by decide : ¬ ((14 : Int32) = (7 : Int32)))).2 (by decide) (by decide) ?_
    show Steps p.tables e below (s₁.setTop (mkF m 73 #[.val (.int (14 : Int32))] [])) _
    refine XS.iloadN X0.here hx rfl (hb hby own_d_method_2_code_73) rfl ?_
    show Steps p.tables e below (s₁.setTop (mkF m 74 #[.val (.int (14 : Int32))] [(.int (14 : Int32))])) _
    refine XS.bipush X0.here hx rfl (hb hby own_d_method_2_code_74) ?_
    show Steps p.tables e below (s₁.setTop (mkF m 76 #[.val (.int (14 : Int32))] [(.int (8 : Int32)), (.int (14 : Int32))])) _
    refine XS.icmpYes X0.here hx rfl (pc0 := 76) (pc' := 83) rfl (hb hby own_d_method_2_code_76) rfl (feq (by decide : ¬ ((14 : Int32) = (8 : Int32)))).2 (by decide) (by decide) ?_
    show Steps p.tables e below (s₁.setTop (mkF m 83 #[.val (.int (14 : Int32))] [])) _
    refine XS.iloadN X0.here hx rfl (hb hby own_d_method_2_code_83) rfl ?_
    show Steps p.tables e below (s₁.setTop (mkF m 84 #[.val (.int (14 : Int32))] [(.int (14 : Int32))])) _
    refine XS.bipush X0.here hx rfl (hb hby own_d_method_2_code_84) ?_
    show Steps p.tables e below (s₁.setTop (mkF m 86 #[.val (.int (14 : Int32))] [(.int (9 : Int32)), (.int (14 : Int32))])) _
    refine XS.icmpYes X0.here hx rfl (pc0 := 86) (pc' := 93) rfl (hb hby own_d_method_2_code_86) rfl (feq (by decide : ¬ ((14 : Int32) = (9 : Int32)))).2 (by decide) (by decide) ?_
    show Steps p.tables e below (s₁.setTop (mkF m 93 #[.val (.int (14 : Int32))] [])) _
    refine XS.iloadN X0.here hx rfl (hb hby own_d_method_2_code_93) rfl ?_
    show Steps p.tables e below (s₁.setTop (mkF m 94 #[.val (.int (14 : Int32))] [(.int (14 : Int32))])) _
    refine XS.bipush X0.here hx rfl (hb hby own_d_method_2_code_94) ?_
    show Steps p.tables e below (s₁.setTop (mkF m 96 #[.val (.int (14 : Int32))] [(.int (10 : Int32)), (.int (14 : Int32))])) _
    refine XS.icmpYes X0.here hx rfl (pc0 := 96) (pc' := 103) rfl (hb hby own_d_method_2_code_96) rfl (feq (by decide : ¬ ((14 : Int32) = (10 : Int32)))).2 (by decide) (by decide) ?_
    show Steps p.tables e below (s₁.setTop (mkF m 103 #[.val (.int (14 : Int32))] [])) _
    refine XS.iloadN X0.here hx rfl (hb hby own_d_method_2_code_103) rfl ?_
    show Steps p.tables e below (s₁.setTop (mkF m 104 #[.val (.int (14 : Int32))] [(.int (14 : Int32))])) _
    refine XS.bipush X0.here hx rfl (hb hby own_d_method_2_code_104) ?_
    show Steps p.tables e below (s₁.setTop (mkF m 106 #[.val (.int (14 : Int32))] [(.int (11 : Int32)), (.int (14 : Int32))])) _
    refine XS.icmpYes X0.here hx rfl (pc0 := 106) (pc' := 113) rfl (hb hby own_d_method_2_code_106) rfl (feq (by decide : ¬ ((14 : Int32) = (11 : Int32)))).2 (by decide) (by decide) ?_
    show Steps p.tables e below (s₁.setTop (mkF m 113 #[.val (.int (14 : Int32))] [])) _
    refine XS.iloadN X0.here hx rfl (hb hby own_d_method_2_code_113) rfl ?_
    show Steps p.tables e below (s₁.setTop (mkF m 114 #[.val (.int (14 : Int32))] [(.int (14 : Int32))])) _
    refine XS.bipush X0.here hx rfl (hb hby own_d_method_2_code_114) ?_
    show Steps p.tables e below (s₁.setTop (mkF m 116 #[.val (.int (14 : Int32))] [(.int (12 : Int32)), (.int (14 : Int32))])) _
    refine XS.icmpYes X0.here hx rfl (pc0 := 116) (pc' := 123) rfl (hb hby own_d_method_2_code_116) rfl (feq (by decide : ¬ ((14 : Int32) = (12 : Int32)))).2 (by decide) (by decide) ?_
    show Steps p.tables e below (s₁.setTop (mkF m 123 #[.val (.int (14 : Int32))] [])) _
    refine XS.iloadN X0.here hx rfl (hb hby own_d_method_2_code_123) rfl ?_
    show Steps p.tables e below (s₁.setTop (mkF m 124 #[.val (.int (14 : Int32))] [(.int (14 : Int32))])) _
    refine XS.bipush X0.here hx rfl (hb hby own_d_method_2_code_124) ?_
    show Steps p.tables e below (s₁.setTop (mkF m 126 #[.val (.int (14 : Int32))] [(.int (13 : Int32)), (.int (14 : Int32))])) _
    refine XS.icmpYes X0.here hx rfl (pc0 := 126) (pc' := 133) rfl (hb hby own_d_method_2_code_126) rfl (feq (by decide : ¬ ((14 : Int32) = (13 : Int32)))).2 (by decide) (by decide) ?_
    show Steps p.tables e below (s₁.setTop (mkF m 133 #[.val (.int (14 : Int32))] [])) _
    refine st86 _ ?_
    show Steps p.tables e below (T86.setTop (mkF m 136 #[.val (.int (14 : Int32))] [(.ref (A 14))])) _
    exact retOut X86 hx Bd.returns rfl (Or.inr (Or.inr (Or.inr (Or.inr ⟨rfl, rfl, rfl⟩)))) (hb hby own_d_method_2_code_136) hr
  · show PQ (some (.ref (A 14))) h0 n0 _ T86.heap _
    rw [e86]
    exact ⟨rfl, N0, rfl⟩
theorem own_ef_rm30 (m : MethodId) (p1 : Int32) (A : Nat → Addr) (K : Nat → ClassId)  : entryFrame m #[(.ref (A 14))] 1 = mkF m 0 #[.val (.ref (A 14))] [] := by first | (simp [entryFrame, mkF, argsToLocals, Value.category, maxLocals]; done) | rfl
set_option maxRecDepth 65536 in
set_option maxHeartbeats 40000000 in
theorem rm30 (l : Launch) (Z : State) (a0 : Array Value) (hw : ∀ d ∈ tables_1, d.before a0 Z = true) (ws : List Jvm.Cond) (h0 : Heap) (n0 : Nat) (p1 : Int32) (A : Nat → Addr) (K : Nat → ClassId)  (EN : own_St Z A K) (OL0 : Old Z n0 h0) :
    MetFree l own_m0 (head1 (Jvm.Cond.code own_m0 prog_24_method_6_code 1 (some .boolean) :: ws) ({ frames := 0, cells := 0, slots := 0, locals := 0 } : Room)) (fun a U => a = #[(.ref (A 14))] ∧ Z.Warmed39 U.vm ∧ U.heap = h0) (fun _ _ _ _ _ => True) (fun _ U o U' => ∃ v L, o = .returned v ∧ (PQ (some (.int (0 : Int32))) h0 n0) v U'.heap L ∧ FrameEnd U o U' L ({ frames := 0, cells := 0, slots := 0, locals := 0 } : Room).cells ({ frames := 0, cells := 0, slots := 0, locals := 0 } : Room).slots) := by
  refine MetFree.of_bodySF (plainFor_of_name own_pn1) hisR ?_
  intro p e s m args below meth c s₁ Bd hml0 hP hK
  obtain ⟨rfl, hZ, hh⟩ := hP
  have hx := Bd.exec
  have hby := Bd.bytes
  have hml : c.maxLocals = 1 := hml0
  have hown : s.vm.findClass "com/example/measurewright/measurewright/Relation" = some m.cls := findClass_of_methodNamed Bd.named
  have hnm := (name_of_methodNamed Bd.named Bd.method).1
  have X0 : Stand p l e ({ frames := 0, cells := 0, slots := 0, locals := 0 } : Room) s m #[(.ref (A 14))] below meth c s₁ [] 0 0 := Stand.of_body Bd
  have e0 : s₁.heap = h0 := by rw [← hh, Bd.state]; rfl
  have N0 := Fr.nil n0
  have pre0 : ∀ t, Steps p.tables e below (s₁.setTop (mkF m 0 #[.val (.ref (A 14))] [])) t → Steps p.tables e below (s₁.setTop (entryFrame m #[(.ref (A 14))] 1)) t := fun t k => castTop (own_ef_rm30 m p1 A K ) k
  have KK0 : Keep h0 h0 [] := Keep.refl _ _
  obtain ⟨T90, X90, e90, st90⟩ := getF X0 hx hZ hown (host := "") (Or.inl (hw _ (List.mem_of_getElem? (i := 17) rfl))) Via.refl e0 (EN.2.2.2.2.2.2.2.1.2.2.2.2.2.2.2.1.ext OL0.2) (g := (mkF m 1 #[.val (.ref (A 14))] [(.ref (A 14))])) rfl rfl (hb hby own_d_prog_24_method_6_code_1)
  obtain ⟨fs, hr, hrun, hended, hW, hsame⟩ := X90.leave (v := some (.int (0 : Int32))) (fun h => by rw [Bd.returns] at h; cases h)
  refine ⟨_, _, pre0 _ ?_, hrun, hended, _, _, rfl, ?_, ⟨_, rfl⟩, hW, hsame.mono (by decide) (by decide)⟩
  · show Steps p.tables e below (s₁.setTop (mkF m 0 #[.val (.ref (A 14))] [])) _
    refine XS.aloadN X0.here hx rfl (hb hby own_d_prog_24_method_6_code_0) rfl rfl ?_
    show Steps p.tables e below (s₁.setTop (mkF m 1 #[.val (.ref (A 14))] [(.ref (A 14))])) _
    refine st90 _ ?_
    show Steps p.tables e below (T90.setTop (mkF m 4 #[.val (.ref (A 14))] [.null])) _
    refine XS.ifnullYes X90.here hx rfl (pc0 := 4) (pc' := 11) rfl (hb hby own_d_prog_24_method_6_code_4) rfl (by decide) (by decide) ?_
    show Steps p.tables e below (T90.setTop (mkF m 11 #[.val (.ref (A 14))] [])) _
    refine XS.iconst X90.here hx rfl (hb hby own_d_prog_24_method_6_code_11) ?_
    show Steps p.tables e below (T90.setTop (mkF m 12 #[.val (.ref (A 14))] [(.int (0 : Int32))])) _
    exact retN X90 hx (t := .boolean) Bd.returns (by simp) (hb hby own_d_prog_24_method_6_code_12) hr
  · show PQ (some (.int (0 : Int32))) h0 n0 _ T90.heap _
    rw [e90]
    exact ⟨rfl, N0, rfl⟩
theorem own_ef_rm0 (m : MethodId) (p1 : Int32) (A : Nat → Addr) (K : Nat → ClassId) : entryFrame m #[(.int p1)] maxLocals = mkF m 0 #[.val (.int p1), .unset, .unset, .unset] [] := by first | (simp [entryFrame, mkF, argsToLocals, Value.category, maxLocals]; done) | rfl
set_option maxRecDepth 65536 in
set_option maxHeartbeats 40000000 in
theorem rm0 (l : Launch) (Z : State) (a0 : Array Value) (hw : ∀ d ∈ tables_1, d.before a0 Z = true) (ws : List Jvm.Cond) (h0 : Heap) (n0 : Nat) (p1 : Int32) (A : Nat → Addr) (K : Nat → ClassId) (EN : own_St Z A K) (OL0 : Old Z n0 h0) :
    MetFree l x (head1 (Jvm.Cond.code x code maxLocals ret :: ws) room_1) (fun a U => a = #[(.int p1)] ∧ Z.Warmed39 U.vm ∧ U.heap = h0) (fun _ _ _ _ _ => True) (fun _ U o U' => ∃ v L, o = .returned v ∧ (LQ n0) v U'.heap L ∧ FrameEnd U o U' L room_1.cells room_1.slots) := by
  refine MetFree.of_bodySF (plainFor_of_name own_pn0) hisR ?_
  intro p e s m args below meth c s₁ Bd hml0 hP hK
  obtain ⟨rfl, hZ, hh⟩ := hP
  have hx := Bd.exec
  have hby := Bd.bytes
  have hml : c.maxLocals = 4 := hml0
  have hown : s.vm.findClass "com/example/measurewright/measurewright/RelationTakesQuantityPinLaw" = some m.cls := findClass_of_methodNamed Bd.named
  have hnm := (name_of_methodNamed Bd.named Bd.method).1
  have X0 : Stand p l e room_1 s m #[(.int p1)] below meth c s₁ [] 0 0 := Stand.of_body Bd
  have e0 : s₁.heap = h0 := by rw [← hh, Bd.state]; rfl
  have N0 := Fr.nil n0
  have pre0 : ∀ t, Steps p.tables e below (s₁.setTop (mkF m 0 #[.val (.int p1), .unset, .unset, .unset] [])) t → Steps p.tables e below (s₁.setTop (entryFrame m #[(.int p1)] maxLocals)) t := fun t k => castTop (own_ef_rm0 m p1 A K) k
  have KK0 : Keep h0 h0 [] := Keep.refl _ _
  have pre1 : ∀ t, Steps p.tables e below (s₁.setTop (mkF m 7 #[.val (.int p1), .unset, .unset, .unset] [(.int ((p1 &&& (2147483647 : Int32)) % (15 : Int32)))])) t → Steps p.tables e below (s₁.setTop (entryFrame m #[(.int p1)] maxLocals)) t := fun t k => pre0 t (by
    show Steps p.tables e below (s₁.setTop (mkF m 0 #[.val (.int p1), .unset, .unset, .unset] [])) _
    refine XS.iloadN X0.here hx rfl (hb hby at_0) rfl ?_
    show Steps p.tables e below (s₁.setTop (mkF m 1 #[.val (.int p1), .unset, .unset, .unset] [(.int p1)])) _
    refine X0.ldcInt hx hown (mvT hZ (hw _ (List.mem_of_getElem? (i := 0) rfl))) (g := (mkF m 1 #[.val (.int p1), .unset, .unset, .unset] [(.int p1)])) rfl (hb hby at_1) _ ?_
    show Steps p.tables e below (s₁.setTop (mkF m 3 #[.val (.int p1), .unset, .unset, .unset] [(.int (2147483647 : Int32)), (.int p1)])) _
    refine XS.iand X0.here hx rfl (hb hby at_3) rfl ?_
    show Steps p.tables e below (s₁.setTop (mkF m 4 #[.val (.int p1), .unset, .unset, .unset] [(.int (p1 &&& (2147483647 : Int32)))])) _
    refine XS.bipush X0.here hx rfl (hb hby at_4) ?_
    show Steps p.tables e below (s₁.setTop (mkF m 6 #[.val (.int p1), .unset, .unset, .unset] [(.int (15 : Int32)), (.int (p1 &&& (2147483647 : Int32)))])) _
    refine iremM X0 hx rfl (hb hby at_6) rfl (by decide) ?_
    exact k)
  obtain ⟨nn2, hn2, hk2⟩ := own_k p1
  match nn2, hn2, hk2 with
  | 0, _, hk2 =>
    obtain ⟨_, _, ⟨T4, L4, k4, n4⟩, -, X4, ⟨Lc4, hQ4, l4, y4, z4⟩, st4⟩ := Jvm.LawKit.callS X0 hx (y := own_m1) hown (mvT hZ (hw _ (List.mem_of_getElem? (i := 1) rfl))) (mvT hZ (hw _ (List.mem_of_getElem? (i := 2) rfl))) (mvT hZ (hw _ (List.mem_of_getElem? (i := 3) rfl))) (mvT hZ (hw _ (List.mem_of_getElem? (i := 4) rfl))) (by decide) (backOf (W := 0) (rm1 l Z a0 hw [] h0 n0 p1 A K EN OL0) hZ (hw _ (List.mem_of_getElem? (i := 4) rfl)) (hw _ (List.mem_of_getElem? (i := 3) rfl)) (by decide) (by decide)) (g := (mkF m 9 #[.val (.int p1), .val (.int (0 : Int32)), .unset, .unset] [(.int (0 : Int32))])) rfl (by rw [hml]; rfl) (argsL := [(.int (0 : Int32))]) (rest := []) (lenOf own_pd0 rfl) rfl (by show 2 * 0 + _ ≤ _; exact Nat.le_of_eq rfl) (hb hby at_9) (fun _ _ => ⟨rfl, e0, (by decide : 0 + 0 ≤ _), (by decide : 0 + 0 ≤ _)⟩)
    dsimp only [Pt.U, Pt.locs, Pt.cells, Pt.slots] at X4 l4 y4 z4 st4 hQ4
    subst l4 y4 z4
    obtain ⟨rfl, N4q, e4⟩ := hQ4
    have N4 := Fr.app N0 N4q
    obtain ⟨T5, X5, e5, st5⟩ := getS2 X4 hx hZ hown (host := "") (Or.inl (hw _ (List.mem_of_getElem? (i := 8) rfl))) Via.refl e4 (EN.2.2.1.2.2.2.2.2.2.1.ext OL0.2) (g := (mkF m 14 #[.val (.int p1), .val (.int (0 : Int32)), .val (.ref (A 0)), .unset] [(.ref (A 0))])) rfl (hb hby at_14)
    obtain ⟨T6, X6, e6, st6⟩ := getS2 X5 hx hZ hown (host := "") (Or.inl (hw _ (List.mem_of_getElem? (i := 10) rfl))) Via.refl e5 (EN.2.2.2.1.2.2.2.2.1.ext OL0.2) (g := (mkF m 21 #[.val (.int p1), .val (.int (0 : Int32)), .val (.ref (A 0)), .unset] [(.ref (A 0))])) rfl (hb hby at_21)
    obtain ⟨cq8, kq8, q8a, q8b, q8c⟩ := isOf hZ e6 (EN.1.2.1.ext OL0.2)
    obtain ⟨_, _, ⟨T8, L8, k8, n8⟩, -, X8, ⟨Lc8, hQ8, l8, y8, z8⟩, st8⟩ := X6.virtualBack hx (y := own_m0) (z := own_m0) hown (mvT hZ (hw _ (List.mem_of_getElem? (i := 12) rfl))) (mvT hZ (hw _ (List.mem_of_getElem? (i := 13) rfl))) (notFace_of_selects (args := #[]) (mvT hZ (hw _ (List.mem_of_getElem? (i := 15) rfl)))) (mvT hZ (hw _ (List.mem_of_getElem? (i := 15) rfl))) (mvT hZ (hw _ (List.mem_of_getElem? (i := 14) rfl))) (by decide) (backOf (W := 0) (rm2 l Z a0 hw [] h0 n0 p1 A K EN OL0) hZ (hw _ (List.mem_of_getElem? (i := 16) rfl)) (hw _ (List.mem_of_getElem? (i := 6) rfl)) (by decide) (by decide)) q8a q8c (g := (mkF m 34 #[.val (.int p1), .val (.int (0 : Int32)), .val (.ref (A 0)), .val (.int (1 : Int32))] [(.ref (A 0))])) rfl (by rw [hml]; rfl) (Steps.refl _) (argsL := []) (rest := []) (lenOf own_pd1 rfl) rfl (by show 2 * 0 + _ ≤ _; exact Nat.le_of_eq rfl) (hb hby at_34) (fun _ _ => ⟨rfl, e6, (by decide : 0 + 0 ≤ _), (by decide : 0 + 0 ≤ _)⟩)
    dsimp only [Pt.U, Pt.locs, Pt.cells, Pt.slots] at X8 l8 y8 z8 st8 hQ8
    subst l8 y8 z8
    obtain ⟨rfl, N8q, e8⟩ := hQ8
    have N8 := Fr.app N4 N8q
    obtain ⟨fs, hr, hrun, hended, hW, hsame⟩ := X8.leave (v := some (.int (1 : Int32))) (fun h => by rw [Bd.returns] at h; cases h)
    refine ⟨_, _, pre1 _ ?_, hrun, hended, _, _, rfl, ?_, ⟨_, rfl⟩, hW, hsame.mono (by decide) (by decide)⟩
    · show Steps p.tables e below (s₁.setTop (mkF m 7 #[.val (.int p1), .unset, .unset, .unset] [(.int ((p1 &&& (2147483647 : Int32)) % (15 : Int32)))])) _
      rw [hk2]
      show Steps p.tables e below (s₁.setTop (mkF m 7 #[.val (.int p1), .unset, .unset, .unset] [(.int (0 : Int32))])) _
      refine XS.istoreN X0.here hx rfl (hb hby at_7) rfl (l' := #[.val (.int p1), .val (.int (0 : Int32)), .unset, .unset]) rfl ?_
      show Steps p.tables e below (s₁.setTop (mkF m 8 #[.val (.int p1), .val (.int (0 : Int32)), .unset, .unset] [])) _
      refine XS.iloadN X0.here hx rfl (hb hby at_8) rfl ?_
      show Steps p.tables e below (s₁.setTop (mkF m 9 #[.val (.int p1), .val (.int (0 : Int32)), .unset, .unset] [(.int (0 : Int32))])) _
      refine st4 _ ?_
      show Steps p.tables e below (T4.setTop (mkF m 12 #[.val (.int p1), .val (.int (0 : Int32)), .unset, .unset] [(.ref (A 0))])) _
      refine XS.astoreN X4.here hx rfl (hb hby at_12) rfl rfl (l' := #[.val (.int p1), .val (.int (0 : Int32)), .val (.ref (A 0)), .unset]) rfl ?_
      show Steps p.tables e below (T4.setTop (mkF m 13 #[.val (.int p1), .val (.int (0 : Int32)), .val (.ref (A 0)), .unset] [])) _
      refine XS.aloadN X4.here hx rfl (hb hby at_13) rfl rfl ?_
      show Steps p.tables e below (T4.setTop (mkF m 14 #[.val (.int p1), .val (.int (0 : Int32)), .val (.ref (A 0)), .unset] [(.ref (A 0))])) _
      refine st5 _ ?_
      show Steps p.tables e below (T5.setTop (mkF m 17 #[.val (.int p1), .val (.int (0 : Int32)), .val (.ref (A 0)), .unset] [(.ref (A 11)), (.ref (A 0))])) _
      refine Jvm.RoadKit.acmp (g := (mkF m 17 #[.val (.int p1), .val (.int (0 : Int32)), .val (.ref (A 0)), .unset] [(.ref (A 11)), (.ref (A 0))])) X5 hx rfl rfl rfl (pc0 := 17) (pc' := 20) (same := false) rfl (hb hby at_17) rfl (decide_eq_false fun q => (Fld.ne EN.2.2.2.2.2.2.2.1.1 EN.2.2.2.2.2.2.2.1.2.1 (fun h => by injection h with h; exact absurd h (by decide))) (Value.ref.inj q)) (by decide) (by decide) ?_
      show Steps p.tables e below (T5.setTop (mkF m 20 #[.val (.int p1), .val (.int (0 : Int32)), .val (.ref (A 0)), .unset] [])) _
      refine XS.aloadN X5.here hx rfl (hb hby at_20) rfl rfl ?_
      show Steps p.tables e below (T5.setTop (mkF m 21 #[.val (.int p1), .val (.int (0 : Int32)), .val (.ref (A 0)), .unset] [(.ref (A 0))])) _
      refine st6 _ ?_
      show Steps p.tables e below (T6.setTop (mkF m 24 #[.val (.int p1), .val (.int (0 : Int32)), .val (.ref (A 0)), .unset] [(.ref (A 14)), (.ref (A 0))])) _
      refine Jvm.RoadKit.acmp (g := (mkF m 24 #[.val (.int p1), .val (.int (0 : Int32)), .val (.ref (A 0)), .unset] [(.ref (A 14)), (.ref (A 0))])) X6 hx rfl rfl rfl (pc0 := 24) (pc' := 27) (same := false) rfl (hb hby at_24) rfl (decide_eq_false fun q => (Fld.ne EN.2.2.2.2.2.2.2.1.1 EN.2.2.2.2.2.2.2.1.2.2.1 (fun h => by injection h with h; exact absurd h (by decide))) (Value.ref.inj q)) (by decide) (by decide) ?_
      show Steps p.tables e below (T6.setTop (mkF m 27 #[.val (.int p1), .val (.int (0 : Int32)), .val (.ref (A 0)), .unset] [])) _
      refine XS.iconst X6.here hx rfl (hb hby at_27) ?_
      show Steps p.tables e below (T6.setTop (mkF m 28 #[.val (.int p1), .val (.int (0 : Int32)), .val (.ref (A 0)), .unset] [(.int (1 : Int32))])) _
      refine XS.goto X6.here hx rfl (pc0 := 28) (pc' := 32) rfl (hb hby at_28) (by decide) (by decide) ?_
      show Steps p.tables e below (T6.setTop (mkF m 32 #[.val (.int p1), .val (.int (0 : Int32)), .val (.ref (A 0)), .unset] [(.int (1 : Int32))])) _
      refine XS.istoreN X6.here hx rfl (hb hby at_32) rfl (l' := #[.val (.int p1), .val (.int (0 : Int32)), .val (.ref (A 0)), .val (.int (1 : Int32))]) rfl ?_
      show Steps p.tables e below (T6.setTop (mkF m 33 #[.val (.int p1), .val (.int (0 : Int32)), .val (.ref (A 0)), .val (.int (1 : Int32))] [])) _
      refine XS.aloadN X6.here hx rfl (hb hby at_33) rfl rfl ?_
      show Steps p.tables e below (T6.setTop (mkF m 34 #[.val (.int p1), .val (.int (0 : Int32)), .val (.ref (A 0)), .val (.int (1 : Int32))] [(.ref (A 0))])) _
      refine st8.trans ?_
      show Steps p.tables e below (T8.setTop (mkF m 37 #[.val (.int p1), .val (.int (0 : Int32)), .val (.ref (A 0)), .val (.int (1 : Int32))] [(.int (1 : Int32))])) _
      refine XS.iloadN X8.here hx rfl (hb hby at_37) rfl ?_
      show Steps p.tables e below (T8.setTop (mkF m 38 #[.val (.int p1), .val (.int (0 : Int32)), .val (.ref (A 0)), .val (.int (1 : Int32))] [(.int (1 : Int32)), (.int (1 : Int32))])) _
      refine XS.icmpNo X8.here hx rfl (hb hby at_38) rfl (teq (by decide : (1 : Int32) = (1 : Int32))).2 ?_
      show Steps p.tables e below (T8.setTop (mkF m 41 #[.val (.int p1), .val (.int (0 : Int32)), .val (.ref (A 0)), .val (.int (1 : Int32))] [])) _
      refine XS.iconst X8.here hx rfl (hb hby at_41) ?_
      show Steps p.tables e below (T8.setTop (mkF m 42 #[.val (.int p1), .val (.int (0 : Int32)), .val (.ref (A 0)), .val (.int (1 : Int32))] [(.int (1 : Int32))])) _
      refine XS.goto X8.here hx rfl (pc0 := 42) (pc' := 46) rfl (hb hby at_42) (by decide) (by decide) ?_
      show Steps p.tables e below (T8.setTop (mkF m 46 #[.val (.int p1), .val (.int (0 : Int32)), .val (.ref (A 0)), .val (.int (1 : Int32))] [(.int (1 : Int32))])) _
      exact retN X8 hx (t := .boolean) Bd.returns (by simp) (hb hby at_46) hr
    · show LQ n0 _ T8.heap _
      exact ⟨rfl, N8, trivial⟩
  | 1, _, hk2 =>
    obtain ⟨_, _, ⟨T10, L10, k10, n10⟩, -, X10, ⟨Lc10, hQ10, l10, y10, z10⟩, st10⟩ := Jvm.LawKit.callS X0 hx (y := own_m1) hown (mvT hZ (hw _ (List.mem_of_getElem? (i := 1) rfl))) (mvT hZ (hw _ (List.mem_of_getElem? (i := 2) rfl))) (mvT hZ (hw _ (List.mem_of_getElem? (i := 3) rfl))) (mvT hZ (hw _ (List.mem_of_getElem? (i := 4) rfl))) (by decide) (backOf (W := 0) (rm3 l Z a0 hw [] h0 n0 p1 A K EN OL0) hZ (hw _ (List.mem_of_getElem? (i := 4) rfl)) (hw _ (List.mem_of_getElem? (i := 3) rfl)) (by decide) (by decide)) (g := (mkF m 9 #[.val (.int p1), .val (.int (1 : Int32)), .unset, .unset] [(.int (1 : Int32))])) rfl (by rw [hml]; rfl) (argsL := [(.int (1 : Int32))]) (rest := []) (lenOf own_pd0 rfl) rfl (by show 2 * 0 + _ ≤ _; exact Nat.le_of_eq rfl) (hb hby at_9) (fun _ _ => ⟨rfl, e0, (by decide : 0 + 0 ≤ _), (by decide : 0 + 0 ≤ _)⟩)
    dsimp only [Pt.U, Pt.locs, Pt.cells, Pt.slots] at X10 l10 y10 z10 st10 hQ10
    subst l10 y10 z10
    obtain ⟨rfl, N10q, e10⟩ := hQ10
    have N10 := Fr.app N0 N10q
    obtain ⟨T11, X11, e11, st11⟩ := getS2 X10 hx hZ hown (host := "") (Or.inl (hw _ (List.mem_of_getElem? (i := 8) rfl))) Via.refl e10 (EN.2.2.1.2.2.2.2.2.2.1.ext OL0.2) (g := (mkF m 14 #[.val (.int p1), .val (.int (1 : Int32)), .val (.ref (A 1)), .unset] [(.ref (A 1))])) rfl (hb hby at_14)
    obtain ⟨T12, X12, e12, st12⟩ := getS2 X11 hx hZ hown (host := "") (Or.inl (hw _ (List.mem_of_getElem? (i := 10) rfl))) Via.refl e11 (EN.2.2.2.1.2.2.2.2.1.ext OL0.2) (g := (mkF m 21 #[.val (.int p1), .val (.int (1 : Int32)), .val (.ref (A 1)), .unset] [(.ref (A 1))])) rfl (hb hby at_21)
    obtain ⟨cq14, kq14, q14a, q14b, q14c⟩ := isOf hZ e12 (EN.1.2.2.2.1.ext OL0.2)
    obtain ⟨_, _, ⟨T14, L14, k14, n14⟩, -, X14, ⟨Lc14, hQ14, l14, y14, z14⟩, st14⟩ := X12.virtualBack hx (y := own_m0) (z := own_m0) hown (mvT hZ (hw _ (List.mem_of_getElem? (i := 12) rfl))) (mvT hZ (hw _ (List.mem_of_getElem? (i := 13) rfl))) (notFace_of_selects (args := #[]) (mvT hZ (hw _ (List.mem_of_getElem? (i := 15) rfl)))) (mvT hZ (hw _ (List.mem_of_getElem? (i := 15) rfl))) (mvT hZ (hw _ (List.mem_of_getElem? (i := 14) rfl))) (by decide) (backOf (W := 0) (rm4 l Z a0 hw [] h0 n0 p1 A K EN OL0) hZ (hw _ (List.mem_of_getElem? (i := 16) rfl)) (hw _ (List.mem_of_getElem? (i := 6) rfl)) (by decide) (by decide)) q14a q14c (g := (mkF m 34 #[.val (.int p1), .val (.int (1 : Int32)), .val (.ref (A 1)), .val (.int (1 : Int32))] [(.ref (A 1))])) rfl (by rw [hml]; rfl) (Steps.refl _) (argsL := []) (rest := []) (lenOf own_pd1 rfl) rfl (by show 2 * 0 + _ ≤ _; exact Nat.le_of_eq rfl) (hb hby at_34) (fun _ _ => ⟨rfl, e12, (by decide : 0 + 0 ≤ _), (by decide : 0 + 0 ≤ _)⟩)
    dsimp only [Pt.U, Pt.locs, Pt.cells, Pt.slots] at X14 l14 y14 z14 st14 hQ14
    subst l14 y14 z14
    obtain ⟨rfl, N14q, e14⟩ := hQ14
    have N14 := Fr.app N10 N14q
    obtain ⟨fs, hr, hrun, hended, hW, hsame⟩ := X14.leave (v := some (.int (1 : Int32))) (fun h => by rw [Bd.returns] at h; cases h)
    refine ⟨_, _, pre1 _ ?_, hrun, hended, _, _, rfl, ?_, ⟨_, rfl⟩, hW, hsame.mono (by decide) (by decide)⟩
    · show Steps p.tables e below (s₁.setTop (mkF m 7 #[.val (.int p1), .unset, .unset, .unset] [(.int ((p1 &&& (2147483647 : Int32)) % (15 : Int32)))])) _
      rw [hk2]
      show Steps p.tables e below (s₁.setTop (mkF m 7 #[.val (.int p1), .unset, .unset, .unset] [(.int (1 : Int32))])) _
      refine XS.istoreN X0.here hx rfl (hb hby at_7) rfl (l' := #[.val (.int p1), .val (.int (1 : Int32)), .unset, .unset]) rfl ?_
      show Steps p.tables e below (s₁.setTop (mkF m 8 #[.val (.int p1), .val (.int (1 : Int32)), .unset, .unset] [])) _
      refine XS.iloadN X0.here hx rfl (hb hby at_8) rfl ?_
      show Steps p.tables e below (s₁.setTop (mkF m 9 #[.val (.int p1), .val (.int (1 : Int32)), .unset, .unset] [(.int (1 : Int32))])) _
      refine st10 _ ?_
      show Steps p.tables e below (T10.setTop (mkF m 12 #[.val (.int p1), .val (.int (1 : Int32)), .unset, .unset] [(.ref (A 1))])) _
      refine XS.astoreN X10.here hx rfl (hb hby at_12) rfl rfl (l' := #[.val (.int p1), .val (.int (1 : Int32)), .val (.ref (A 1)), .unset]) rfl ?_
      show Steps p.tables e below (T10.setTop (mkF m 13 #[.val (.int p1), .val (.int (1 : Int32)), .val (.ref (A 1)), .unset] [])) _
      refine XS.aloadN X10.here hx rfl (hb hby at_13) rfl rfl ?_
      show Steps p.tables e below (T10.setTop (mkF m 14 #[.val (.int p1), .val (.int (1 : Int32)), .val (.ref (A 1)), .unset] [(.ref (A 1))])) _
      refine st11 _ ?_
      show Steps p.tables e below (T11.setTop (mkF m 17 #[.val (.int p1), .val (.int (1 : Int32)), .val (.ref (A 1)), .unset] [(.ref (A 11)), (.ref (A 1))])) _
      refine Jvm.RoadKit.acmp (g := (mkF m 17 #[.val (.int p1), .val (.int (1 : Int32)), .val (.ref (A 1)), .unset] [(.ref (A 11)), (.ref (A 1))])) X11 hx rfl rfl rfl (pc0 := 17) (pc' := 20) (same := false) rfl (hb hby at_17) rfl (decide_eq_false fun q => (Fld.ne EN.2.2.2.2.2.2.2.2.1.2.2.2.2.2.1 EN.2.2.2.2.2.2.2.1.2.1 (fun h => by injection h with h; exact absurd h (by decide))) (Value.ref.inj q)) (by decide) (by decide) ?_
      show Steps p.tables e below (T11.setTop (mkF m 20 #[.val (.int p1), .val (.int (1 : Int32)), .val (.ref (A 1)), .unset] [])) _
      refine XS.aloadN X11.here hx rfl (hb hby at_20) rfl rfl ?_
      show Steps p.tables e below (T11.setTop (mkF m 21 #[.val (.int p1), .val (.int (1 : Int32)), .val (.ref (A 1)), .unset] [(.ref (A 1))])) _
      refine st12 _ ?_
      show Steps p.tables e below (T12.setTop (mkF m 24 #[.val (.int p1), .val (.int (1 : Int32)), .val (.ref (A 1)), .unset] [(.ref (A 14)), (.ref (A 1))])) _
      refine Jvm.RoadKit.acmp (g := (mkF m 24 #[.val (.int p1), .val (.int (1 : Int32)), .val (.ref (A 1)), .unset] [(.ref (A 14)), (.ref (A 1))])) X12 hx rfl rfl rfl (pc0 := 24) (pc' := 27) (same := false) rfl (hb hby at_24) rfl (decide_eq_false fun q => (Fld.ne EN.2.2.2.2.2.2.2.2.1.2.2.2.2.2.1 EN.2.2.2.2.2.2.2.1.2.2.1 (fun h => by injection h with h; exact absurd h (by decide))) (Value.ref.inj q)) (by decide) (by decide) ?_
      show Steps p.tables e below (T12.setTop (mkF m 27 #[.val (.int p1), .val (.int (1 : Int32)), .val (.ref (A 1)), .unset] [])) _
      refine XS.iconst X12.here hx rfl (hb hby at_27) ?_
      show Steps p.tables e below (T12.setTop (mkF m 28 #[.val (.int p1), .val (.int (1 : Int32)), .val (.ref (A 1)), .unset] [(.int (1 : Int32))])) _
      refine XS.goto X12.here hx rfl (pc0 := 28) (pc' := 32) rfl (hb hby at_28) (by decide) (by decide) ?_
      show Steps p.tables e below (T12.setTop (mkF m 32 #[.val (.int p1), .val (.int (1 : Int32)), .val (.ref (A 1)), .unset] [(.int (1 : Int32))])) _
      refine XS.istoreN X12.here hx rfl (hb hby at_32) rfl (l' := #[.val (.int p1), .val (.int (1 : Int32)), .val (.ref (A 1)), .val (.int (1 : Int32))]) rfl ?_
      show Steps p.tables e below (T12.setTop (mkF m 33 #[.val (.int p1), .val (.int (1 : Int32)), .val (.ref (A 1)), .val (.int (1 : Int32))] [])) _
      refine XS.aloadN X12.here hx rfl (hb hby at_33) rfl rfl ?_
      show Steps p.tables e below (T12.setTop (mkF m 34 #[.val (.int p1), .val (.int (1 : Int32)), .val (.ref (A 1)), .val (.int (1 : Int32))] [(.ref (A 1))])) _
      refine st14.trans ?_
      show Steps p.tables e below (T14.setTop (mkF m 37 #[.val (.int p1), .val (.int (1 : Int32)), .val (.ref (A 1)), .val (.int (1 : Int32))] [(.int (1 : Int32))])) _
      refine XS.iloadN X14.here hx rfl (hb hby at_37) rfl ?_
      show Steps p.tables e below (T14.setTop (mkF m 38 #[.val (.int p1), .val (.int (1 : Int32)), .val (.ref (A 1)), .val (.int (1 : Int32))] [(.int (1 : Int32)), (.int (1 : Int32))])) _
      refine XS.icmpNo X14.here hx rfl (hb hby at_38) rfl (teq (by decide : (1 : Int32) = (1 : Int32))).2 ?_
      show Steps p.tables e below (T14.setTop (mkF m 41 #[.val (.int p1), .val (.int (1 : Int32)), .val (.ref (A 1)), .val (.int (1 : Int32))] [])) _
      refine XS.iconst X14.here hx rfl (hb hby at_41) ?_
      show Steps p.tables e below (T14.setTop (mkF m 42 #[.val (.int p1), .val (.int (1 : Int32)), .val (.ref (A 1)), .val (.int (1 : Int32))] [(.int (1 : Int32))])) _
      refine XS.goto X14.here hx rfl (pc0 := 42) (pc' := 46) rfl (hb hby at_42) (by decide) (by decide) ?_
      show Steps p.tables e below (T14.setTop (mkF m 46 #[.val (.int p1), .val (.int (1 : Int32)), .val (.ref (A 1)), .val (.int (1 : Int32))] [(.int (1 : Int32))])) _
      exact retN X14 hx (t := .boolean) Bd.returns (by simp) (hb hby at_46) hr
    · show LQ n0 _ T14.heap _
      exact ⟨rfl, N14, trivial⟩
  | 2, _, hk2 =>
    obtain ⟨_, _, ⟨T16, L16, k16, n16⟩, -, X16, ⟨Lc16, hQ16, l16, y16, z16⟩, st16⟩ := Jvm.LawKit.callS X0 hx (y := own_m1) hown (mvT hZ (hw _ (List.mem_of_getElem? (i := 1) rfl))) (mvT hZ (hw _ (List.mem_of_getElem? (i := 2) rfl))) (mvT hZ (hw _ (List.mem_of_getElem? (i := 3) rfl))) (mvT hZ (hw _ (List.mem_of_getElem? (i := 4) rfl))) (by decide) (backOf (W := 0) (rm5 l Z a0 hw [] h0 n0 p1 A K EN OL0) hZ (hw _ (List.mem_of_getElem? (i := 4) rfl)) (hw _ (List.mem_of_getElem? (i := 3) rfl)) (by decide) (by decide)) (g := (mkF m 9 #[.val (.int p1), .val (.int (2 : Int32)), .unset, .unset] [(.int (2 : Int32))])) rfl (by rw [hml]; rfl) (argsL := [(.int (2 : Int32))]) (rest := []) (lenOf own_pd0 rfl) rfl (by show 2 * 0 + _ ≤ _; exact Nat.le_of_eq rfl) (hb hby at_9) (fun _ _ => ⟨rfl, e0, (by decide : 0 + 0 ≤ _), (by decide : 0 + 0 ≤ _)⟩)
    dsimp only [Pt.U, Pt.locs, Pt.cells, Pt.slots] at X16 l16 y16 z16 st16 hQ16
    subst l16 y16 z16
    obtain ⟨rfl, N16q, e16⟩ := hQ16
    have N16 := Fr.app N0 N16q
    obtain ⟨T17, X17, e17, st17⟩ := getS2 X16 hx hZ hown (host := "") (Or.inl (hw _ (List.mem_of_getElem? (i := 8) rfl))) Via.refl e16 (EN.2.2.1.2.2.2.2.2.2.1.ext OL0.2) (g := (mkF m 14 #[.val (.int p1), .val (.int (2 : Int32)), .val (.ref (A 2)), .unset] [(.ref (A 2))])) rfl (hb hby at_14)
    obtain ⟨T18, X18, e18, st18⟩ := getS2 X17 hx hZ hown (host := "") (Or.inl (hw _ (List.mem_of_getElem? (i := 10) rfl))) Via.refl e17 (EN.2.2.2.1.2.2.2.2.1.ext OL0.2) (g := (mkF m 21 #[.val (.int p1), .val (.int (2 : Int32)), .val (.ref (A 2)), .unset] [(.ref (A 2))])) rfl (hb hby at_21)
    obtain ⟨cq20, kq20, q20a, q20b, q20c⟩ := isOf hZ e18 (EN.1.2.2.2.2.2.1.ext OL0.2)
    obtain ⟨_, _, ⟨T20, L20, k20, n20⟩, -, X20, ⟨Lc20, hQ20, l20, y20, z20⟩, st20⟩ := X18.virtualBack hx (y := own_m0) (z := own_m0) hown (mvT hZ (hw _ (List.mem_of_getElem? (i := 12) rfl))) (mvT hZ (hw _ (List.mem_of_getElem? (i := 13) rfl))) (notFace_of_selects (args := #[]) (mvT hZ (hw _ (List.mem_of_getElem? (i := 15) rfl)))) (mvT hZ (hw _ (List.mem_of_getElem? (i := 15) rfl))) (mvT hZ (hw _ (List.mem_of_getElem? (i := 14) rfl))) (by decide) (backOf (W := 0) (rm6 l Z a0 hw [] h0 n0 p1 A K EN OL0) hZ (hw _ (List.mem_of_getElem? (i := 16) rfl)) (hw _ (List.mem_of_getElem? (i := 6) rfl)) (by decide) (by decide)) q20a q20c (g := (mkF m 34 #[.val (.int p1), .val (.int (2 : Int32)), .val (.ref (A 2)), .val (.int (1 : Int32))] [(.ref (A 2))])) rfl (by rw [hml]; rfl) (Steps.refl _) (argsL := []) (rest := []) (lenOf own_pd1 rfl) rfl (by show 2 * 0 + _ ≤ _; exact Nat.le_of_eq rfl) (hb hby at_34) (fun _ _ => ⟨rfl, e18, (by decide : 0 + 0 ≤ _), (by decide : 0 + 0 ≤ _)⟩)
    dsimp only [Pt.U, Pt.locs, Pt.cells, Pt.slots] at X20 l20 y20 z20 st20 hQ20
    subst l20 y20 z20
    obtain ⟨rfl, N20q, e20⟩ := hQ20
    have N20 := Fr.app N16 N20q
    obtain ⟨fs, hr, hrun, hended, hW, hsame⟩ := X20.leave (v := some (.int (1 : Int32))) (fun h => by rw [Bd.returns] at h; cases h)
    refine ⟨_, _, pre1 _ ?_, hrun, hended, _, _, rfl, ?_, ⟨_, rfl⟩, hW, hsame.mono (by decide) (by decide)⟩
    · show Steps p.tables e below (s₁.setTop (mkF m 7 #[.val (.int p1), .unset, .unset, .unset] [(.int ((p1 &&& (2147483647 : Int32)) % (15 : Int32)))])) _
      rw [hk2]
      show Steps p.tables e below (s₁.setTop (mkF m 7 #[.val (.int p1), .unset, .unset, .unset] [(.int (2 : Int32))])) _
      refine XS.istoreN X0.here hx rfl (hb hby at_7) rfl (l' := #[.val (.int p1), .val (.int (2 : Int32)), .unset, .unset]) rfl ?_
      show Steps p.tables e below (s₁.setTop (mkF m 8 #[.val (.int p1), .val (.int (2 : Int32)), .unset, .unset] [])) _
      refine XS.iloadN X0.here hx rfl (hb hby at_8) rfl ?_
      show Steps p.tables e below (s₁.setTop (mkF m 9 #[.val (.int p1), .val (.int (2 : Int32)), .unset, .unset] [(.int (2 : Int32))])) _
      refine st16 _ ?_
      show Steps p.tables e below (T16.setTop (mkF m 12 #[.val (.int p1), .val (.int (2 : Int32)), .unset, .unset] [(.ref (A 2))])) _
      refine XS.astoreN X16.here hx rfl (hb hby at_12) rfl rfl (l' := #[.val (.int p1), .val (.int (2 : Int32)), .val (.ref (A 2)), .unset]) rfl ?_
      show Steps p.tables e below (T16.setTop (mkF m 13 #[.val (.int p1), .val (.int (2 : Int32)), .val (.ref (A 2)), .unset] [])) _
      refine XS.aloadN X16.here hx rfl (hb hby at_13) rfl rfl ?_
      show Steps p.tables e below (T16.setTop (mkF m 14 #[.val (.int p1), .val (.int (2 : Int32)), .val (.ref (A 2)), .unset] [(.ref (A 2))])) _
      refine st17 _ ?_
      show Steps p.tables e below (T17.setTop (mkF m 17 #[.val (.int p1), .val (.int (2 : Int32)), .val (.ref (A 2)), .unset] [(.ref (A 11)), (.ref (A 2))])) _
      refine Jvm.RoadKit.acmp (g := (mkF m 17 #[.val (.int p1), .val (.int (2 : Int32)), .val (.ref (A 2)), .unset] [(.ref (A 11)), (.ref (A 2))])) X17 hx rfl rfl rfl (pc0 := 17) (pc' := 20) (same := false) rfl (hb hby at_17) rfl (decide_eq_false fun q => (Fld.ne EN.2.2.2.2.2.2.2.2.1.2.1 EN.2.2.2.2.2.2.2.1.2.1 (fun h => by injection h with h; exact absurd h (by decide))) (Value.ref.inj q)) (by decide) (by decide) ?_
      show Steps p.tables e below (T17.setTop (mkF m 20 #[.val (.int p1), .val (.int (2 : Int32)), .val (.ref (A 2)), .unset] [])) _
      refine XS.aloadN X17.here hx rfl (hb hby at_20) rfl rfl ?_
      show Steps p.tables e below (T17.setTop (mkF m 21 #[.val (.int p1), .val (.int (2 : Int32)), .val (.ref (A 2)), .unset] [(.ref (A 2))])) _
      refine st18 _ ?_
      show Steps p.tables e below (T18.setTop (mkF m 24 #[.val (.int p1), .val (.int (2 : Int32)), .val (.ref (A 2)), .unset] [(.ref (A 14)), (.ref (A 2))])) _
      refine Jvm.RoadKit.acmp (g := (mkF m 24 #[.val (.int p1), .val (.int (2 : Int32)), .val (.ref (A 2)), .unset] [(.ref (A 14)), (.ref (A 2))])) X18 hx rfl rfl rfl (pc0 := 24) (pc' := 27) (same := false) rfl (hb hby at_24) rfl (decide_eq_false fun q => (Fld.ne EN.2.2.2.2.2.2.2.2.1.2.1 EN.2.2.2.2.2.2.2.1.2.2.1 (fun h => by injection h with h; exact absurd h (by decide))) (Value.ref.inj q)) (by decide) (by decide) ?_
      show Steps p.tables e below (T18.setTop (mkF m 27 #[.val (.int p1), .val (.int (2 : Int32)), .val (.ref (A 2)), .unset] [])) _
      refine XS.iconst X18.here hx rfl (hb hby at_27) ?_
      show Steps p.tables e below (T18.setTop (mkF m 28 #[.val (.int p1), .val (.int (2 : Int32)), .val (.ref (A 2)), .unset] [(.int (1 : Int32))])) _
      refine XS.goto X18.here hx rfl (pc0 := 28) (pc' := 32) rfl (hb hby at_28) (by decide) (by decide) ?_
      show Steps p.tables e below (T18.setTop (mkF m 32 #[.val (.int p1), .val (.int (2 : Int32)), .val (.ref (A 2)), .unset] [(.int (1 : Int32))])) _
      refine XS.istoreN X18.here hx rfl (hb hby at_32) rfl (l' := #[.val (.int p1), .val (.int (2 : Int32)), .val (.ref (A 2)), .val (.int (1 : Int32))]) rfl ?_
      show Steps p.tables e below (T18.setTop (mkF m 33 #[.val (.int p1), .val (.int (2 : Int32)), .val (.ref (A 2)), .val (.int (1 : Int32))] [])) _
      refine XS.aloadN X18.here hx rfl (hb hby at_33) rfl rfl ?_
      show Steps p.tables e below (T18.setTop (mkF m 34 #[.val (.int p1), .val (.int (2 : Int32)), .val (.ref (A 2)), .val (.int (1 : Int32))] [(.ref (A 2))])) _
      refine st20.trans ?_
      show Steps p.tables e below (T20.setTop (mkF m 37 #[.val (.int p1), .val (.int (2 : Int32)), .val (.ref (A 2)), .val (.int (1 : Int32))] [(.int (1 : Int32))])) _
      refine XS.iloadN X20.here hx rfl (hb hby at_37) rfl ?_
      show Steps p.tables e below (T20.setTop (mkF m 38 #[.val (.int p1), .val (.int (2 : Int32)), .val (.ref (A 2)), .val (.int (1 : Int32))] [(.int (1 : Int32)), (.int (1 : Int32))])) _
      refine XS.icmpNo X20.here hx rfl (hb hby at_38) rfl (teq (by decide : (1 : Int32) = (1 : Int32))).2 ?_
      show Steps p.tables e below (T20.setTop (mkF m 41 #[.val (.int p1), .val (.int (2 : Int32)), .val (.ref (A 2)), .val (.int (1 : Int32))] [])) _
      refine XS.iconst X20.here hx rfl (hb hby at_41) ?_
      show Steps p.tables e below (T20.setTop (mkF m 42 #[.val (.int p1), .val (.int (2 : Int32)), .val (.ref (A 2)), .val (.int (1 : Int32))] [(.int (1 : Int32))])) _
      refine XS.goto X20.here hx rfl (pc0 := 42) (pc' := 46) rfl (hb hby at_42) (by decide) (by decide) ?_
      show Steps p.tables e below (T20.setTop (mkF m 46 #[.val (.int p1), .val (.int (2 : Int32)), .val (.ref (A 2)), .val (.int (1 : Int32))] [(.int (1 : Int32))])) _
      exact retN X20 hx (t := .boolean) Bd.returns (by simp) (hb hby at_46) hr
    · show LQ n0 _ T20.heap _
      exact ⟨rfl, N20, trivial⟩
  | 3, _, hk2 =>
    obtain ⟨_, _, ⟨T22, L22, k22, n22⟩, -, X22, ⟨Lc22, hQ22, l22, y22, z22⟩, st22⟩ := Jvm.LawKit.callS X0 hx (y := own_m1) hown (mvT hZ (hw _ (List.mem_of_getElem? (i := 1) rfl))) (mvT hZ (hw _ (List.mem_of_getElem? (i := 2) rfl))) (mvT hZ (hw _ (List.mem_of_getElem? (i := 3) rfl))) (mvT hZ (hw _ (List.mem_of_getElem? (i := 4) rfl))) (by decide) (backOf (W := 0) (rm7 l Z a0 hw [] h0 n0 p1 A K EN OL0) hZ (hw _ (List.mem_of_getElem? (i := 4) rfl)) (hw _ (List.mem_of_getElem? (i := 3) rfl)) (by decide) (by decide)) (g := (mkF m 9 #[.val (.int p1), .val (.int (3 : Int32)), .unset, .unset] [(.int (3 : Int32))])) rfl (by rw [hml]; rfl) (argsL := [(.int (3 : Int32))]) (rest := []) (lenOf own_pd0 rfl) rfl (by show 2 * 0 + _ ≤ _; exact Nat.le_of_eq rfl) (hb hby at_9) (fun _ _ => ⟨rfl, e0, (by decide : 0 + 0 ≤ _), (by decide : 0 + 0 ≤ _)⟩)
    dsimp only [Pt.U, Pt.locs, Pt.cells, Pt.slots] at X22 l22 y22 z22 st22 hQ22
    subst l22 y22 z22
    obtain ⟨rfl, N22q, e22⟩ := hQ22
    have N22 := Fr.app N0 N22q
    obtain ⟨T23, X23, e23, st23⟩ := getS2 X22 hx hZ hown (host := "") (Or.inl (hw _ (List.mem_of_getElem? (i := 8) rfl))) Via.refl e22 (EN.2.2.1.2.2.2.2.2.2.1.ext OL0.2) (g := (mkF m 14 #[.val (.int p1), .val (.int (3 : Int32)), .val (.ref (A 3)), .unset] [(.ref (A 3))])) rfl (hb hby at_14)
    obtain ⟨T24, X24, e24, st24⟩ := getS2 X23 hx hZ hown (host := "") (Or.inl (hw _ (List.mem_of_getElem? (i := 10) rfl))) Via.refl e23 (EN.2.2.2.1.2.2.2.2.1.ext OL0.2) (g := (mkF m 21 #[.val (.int p1), .val (.int (3 : Int32)), .val (.ref (A 3)), .unset] [(.ref (A 3))])) rfl (hb hby at_21)
    obtain ⟨cq26, kq26, q26a, q26b, q26c⟩ := isOf hZ e24 (EN.1.2.2.2.2.2.2.2.1.ext OL0.2)
    obtain ⟨_, _, ⟨T26, L26, k26, n26⟩, -, X26, ⟨Lc26, hQ26, l26, y26, z26⟩, st26⟩ := X24.virtualBack hx (y := own_m0) (z := own_m0) hown (mvT hZ (hw _ (List.mem_of_getElem? (i := 12) rfl))) (mvT hZ (hw _ (List.mem_of_getElem? (i := 13) rfl))) (notFace_of_selects (args := #[]) (mvT hZ (hw _ (List.mem_of_getElem? (i := 15) rfl)))) (mvT hZ (hw _ (List.mem_of_getElem? (i := 15) rfl))) (mvT hZ (hw _ (List.mem_of_getElem? (i := 14) rfl))) (by decide) (backOf (W := 0) (rm8 l Z a0 hw [] h0 n0 p1 A K EN OL0) hZ (hw _ (List.mem_of_getElem? (i := 16) rfl)) (hw _ (List.mem_of_getElem? (i := 6) rfl)) (by decide) (by decide)) q26a q26c (g := (mkF m 34 #[.val (.int p1), .val (.int (3 : Int32)), .val (.ref (A 3)), .val (.int (1 : Int32))] [(.ref (A 3))])) rfl (by rw [hml]; rfl) (Steps.refl _) (argsL := []) (rest := []) (lenOf own_pd1 rfl) rfl (by show 2 * 0 + _ ≤ _; exact Nat.le_of_eq rfl) (hb hby at_34) (fun _ _ => ⟨rfl, e24, (by decide : 0 + 0 ≤ _), (by decide : 0 + 0 ≤ _)⟩)
    dsimp only [Pt.U, Pt.locs, Pt.cells, Pt.slots] at X26 l26 y26 z26 st26 hQ26
    subst l26 y26 z26
    obtain ⟨rfl, N26q, e26⟩ := hQ26
    have N26 := Fr.app N22 N26q
    obtain ⟨fs, hr, hrun, hended, hW, hsame⟩ := X26.leave (v := some (.int (1 : Int32))) (fun h => by rw [Bd.returns] at h; cases h)
    refine ⟨_, _, pre1 _ ?_, hrun, hended, _, _, rfl, ?_, ⟨_, rfl⟩, hW, hsame.mono (by decide) (by decide)⟩
    · show Steps p.tables e below (s₁.setTop (mkF m 7 #[.val (.int p1), .unset, .unset, .unset] [(.int ((p1 &&& (2147483647 : Int32)) % (15 : Int32)))])) _
      rw [hk2]
      show Steps p.tables e below (s₁.setTop (mkF m 7 #[.val (.int p1), .unset, .unset, .unset] [(.int (3 : Int32))])) _
      refine XS.istoreN X0.here hx rfl (hb hby at_7) rfl (l' := #[.val (.int p1), .val (.int (3 : Int32)), .unset, .unset]) rfl ?_
      show Steps p.tables e below (s₁.setTop (mkF m 8 #[.val (.int p1), .val (.int (3 : Int32)), .unset, .unset] [])) _
      refine XS.iloadN X0.here hx rfl (hb hby at_8) rfl ?_
      show Steps p.tables e below (s₁.setTop (mkF m 9 #[.val (.int p1), .val (.int (3 : Int32)), .unset, .unset] [(.int (3 : Int32))])) _
      refine st22 _ ?_
      show Steps p.tables e below (T22.setTop (mkF m 12 #[.val (.int p1), .val (.int (3 : Int32)), .unset, .unset] [(.ref (A 3))])) _
      refine XS.astoreN X22.here hx rfl (hb hby at_12) rfl rfl (l' := #[.val (.int p1), .val (.int (3 : Int32)), .val (.ref (A 3)), .unset]) rfl ?_
      show Steps p.tables e below (T22.setTop (mkF m 13 #[.val (.int p1), .val (.int (3 : Int32)), .val (.ref (A 3)), .unset] [])) _
      refine XS.aloadN X22.here hx rfl (hb hby at_13) rfl rfl ?_
      show Steps p.tables e below (T22.setTop (mkF m 14 #[.val (.int p1), .val (.int (3 : Int32)), .val (.ref (A 3)), .unset] [(.ref (A 3))])) _
      refine st23 _ ?_
      show Steps p.tables e below (T23.setTop (mkF m 17 #[.val (.int p1), .val (.int (3 : Int32)), .val (.ref (A 3)), .unset] [(.ref (A 11)), (.ref (A 3))])) _
      refine Jvm.RoadKit.acmp (g := (mkF m 17 #[.val (.int p1), .val (.int (3 : Int32)), .val (.ref (A 3)), .unset] [(.ref (A 11)), (.ref (A 3))])) X23 hx rfl rfl rfl (pc0 := 17) (pc' := 20) (same := false) rfl (hb hby at_17) rfl (decide_eq_false fun q => (Fld.ne EN.2.2.2.2.2.2.2.1.2.2.2.1 EN.2.2.2.2.2.2.2.1.2.1 (fun h => by injection h with h; exact absurd h (by decide))) (Value.ref.inj q)) (by decide) (by decide) ?_
      show Steps p.tables e below (T23.setTop (mkF m 20 #[.val (.int p1), .val (.int (3 : Int32)), .val (.ref (A 3)), .unset] [])) _
      refine XS.aloadN X23.here hx rfl (hb hby at_20) rfl rfl ?_
      show Steps p.tables e below (T23.setTop (mkF m 21 #[.val (.int p1), .val (.int (3 : Int32)), .val (.ref (A 3)), .unset] [(.ref (A 3))])) _
      refine st24 _ ?_
      show Steps p.tables e below (T24.setTop (mkF m 24 #[.val (.int p1), .val (.int (3 : Int32)), .val (.ref (A 3)), .unset] [(.ref (A 14)), (.ref (A 3))])) _
      refine Jvm.RoadKit.acmp (g := (mkF m 24 #[.val (.int p1), .val (.int (3 : Int32)), .val (.ref (A 3)), .unset] [(.ref (A 14)), (.ref (A 3))])) X24 hx rfl rfl rfl (pc0 := 24) (pc' := 27) (same := false) rfl (hb hby at_24) rfl (decide_eq_false fun q => (Fld.ne EN.2.2.2.2.2.2.2.1.2.2.2.1 EN.2.2.2.2.2.2.2.1.2.2.1 (fun h => by injection h with h; exact absurd h (by decide))) (Value.ref.inj q)) (by decide) (by decide) ?_
      show Steps p.tables e below (T24.setTop (mkF m 27 #[.val (.int p1), .val (.int (3 : Int32)), .val (.ref (A 3)), .unset] [])) _
      refine XS.iconst X24.here hx rfl (hb hby at_27) ?_
      show Steps p.tables e below (T24.setTop (mkF m 28 #[.val (.int p1), .val (.int (3 : Int32)), .val (.ref (A 3)), .unset] [(.int (1 : Int32))])) _
      refine XS.goto X24.here hx rfl (pc0 := 28) (pc' := 32) rfl (hb hby at_28) (by decide) (by decide) ?_
      show Steps p.tables e below (T24.setTop (mkF m 32 #[.val (.int p1), .val (.int (3 : Int32)), .val (.ref (A 3)), .unset] [(.int (1 : Int32))])) _
      refine XS.istoreN X24.here hx rfl (hb hby at_32) rfl (l' := #[.val (.int p1), .val (.int (3 : Int32)), .val (.ref (A 3)), .val (.int (1 : Int32))]) rfl ?_
      show Steps p.tables e below (T24.setTop (mkF m 33 #[.val (.int p1), .val (.int (3 : Int32)), .val (.ref (A 3)), .val (.int (1 : Int32))] [])) _
      refine XS.aloadN X24.here hx rfl (hb hby at_33) rfl rfl ?_
      show Steps p.tables e below (T24.setTop (mkF m 34 #[.val (.int p1), .val (.int (3 : Int32)), .val (.ref (A 3)), .val (.int (1 : Int32))] [(.ref (A 3))])) _
      refine st26.trans ?_
      show Steps p.tables e below (T26.setTop (mkF m 37 #[.val (.int p1), .val (.int (3 : Int32)), .val (.ref (A 3)), .val (.int (1 : Int32))] [(.int (1 : Int32))])) _
      refine XS.iloadN X26.here hx rfl (hb hby at_37) rfl ?_
      show Steps p.tables e below (T26.setTop (mkF m 38 #[.val (.int p1), .val (.int (3 : Int32)), .val (.ref (A 3)), .val (.int (1 : Int32))] [(.int (1 : Int32)), (.int (1 : Int32))])) _
      refine XS.icmpNo X26.here hx rfl (hb hby at_38) rfl (teq (by decide : (1 : Int32) = (1 : Int32))).2 ?_
      show Steps p.tables e below (T26.setTop (mkF m 41 #[.val (.int p1), .val (.int (3 : Int32)), .val (.ref (A 3)), .val (.int (1 : Int32))] [])) _
      refine XS.iconst X26.here hx rfl (hb hby at_41) ?_
      show Steps p.tables e below (T26.setTop (mkF m 42 #[.val (.int p1), .val (.int (3 : Int32)), .val (.ref (A 3)), .val (.int (1 : Int32))] [(.int (1 : Int32))])) _
      refine XS.goto X26.here hx rfl (pc0 := 42) (pc' := 46) rfl (hb hby at_42) (by decide) (by decide) ?_
      show Steps p.tables e below (T26.setTop (mkF m 46 #[.val (.int p1), .val (.int (3 : Int32)), .val (.ref (A 3)), .val (.int (1 : Int32))] [(.int (1 : Int32))])) _
      exact retN X26 hx (t := .boolean) Bd.returns (by simp) (hb hby at_46) hr
    · show LQ n0 _ T26.heap _
      exact ⟨rfl, N26, trivial⟩
  | 4, _, hk2 =>
    obtain ⟨_, _, ⟨T28, L28, k28, n28⟩, -, X28, ⟨Lc28, hQ28, l28, y28, z28⟩, st28⟩ := Jvm.LawKit.callS X0 hx (y := own_m1) hown (mvT hZ (hw _ (List.mem_of_getElem? (i := 1) rfl))) (mvT hZ (hw _ (List.mem_of_getElem? (i := 2) rfl))) (mvT hZ (hw _ (List.mem_of_getElem? (i := 3) rfl))) (mvT hZ (hw _ (List.mem_of_getElem? (i := 4) rfl))) (by decide) (backOf (W := 0) (rm9 l Z a0 hw [] h0 n0 p1 A K EN OL0) hZ (hw _ (List.mem_of_getElem? (i := 4) rfl)) (hw _ (List.mem_of_getElem? (i := 3) rfl)) (by decide) (by decide)) (g := (mkF m 9 #[.val (.int p1), .val (.int (4 : Int32)), .unset, .unset] [(.int (4 : Int32))])) rfl (by rw [hml]; rfl) (argsL := [(.int (4 : Int32))]) (rest := []) (lenOf own_pd0 rfl) rfl (by show 2 * 0 + _ ≤ _; exact Nat.le_of_eq rfl) (hb hby at_9) (fun _ _ => ⟨rfl, e0, (by decide : 0 + 0 ≤ _), (by decide : 0 + 0 ≤ _)⟩)
    dsimp only [Pt.U, Pt.locs, Pt.cells, Pt.slots] at X28 l28 y28 z28 st28 hQ28
    subst l28 y28 z28
    obtain ⟨rfl, N28q, e28⟩ := hQ28
    have N28 := Fr.app N0 N28q
    obtain ⟨T29, X29, e29, st29⟩ := getS2 X28 hx hZ hown (host := "") (Or.inl (hw _ (List.mem_of_getElem? (i := 8) rfl))) Via.refl e28 (EN.2.2.1.2.2.2.2.2.2.1.ext OL0.2) (g := (mkF m 14 #[.val (.int p1), .val (.int (4 : Int32)), .val (.ref (A 4)), .unset] [(.ref (A 4))])) rfl (hb hby at_14)
    obtain ⟨T30, X30, e30, st30⟩ := getS2 X29 hx hZ hown (host := "") (Or.inl (hw _ (List.mem_of_getElem? (i := 10) rfl))) Via.refl e29 (EN.2.2.2.1.2.2.2.2.1.ext OL0.2) (g := (mkF m 21 #[.val (.int p1), .val (.int (4 : Int32)), .val (.ref (A 4)), .unset] [(.ref (A 4))])) rfl (hb hby at_21)
    obtain ⟨cq32, kq32, q32a, q32b, q32c⟩ := isOf hZ e30 (EN.2.1.2.1.ext OL0.2)
    obtain ⟨_, _, ⟨T32, L32, k32, n32⟩, -, X32, ⟨Lc32, hQ32, l32, y32, z32⟩, st32⟩ := X30.virtualBack hx (y := own_m0) (z := own_m0) hown (mvT hZ (hw _ (List.mem_of_getElem? (i := 12) rfl))) (mvT hZ (hw _ (List.mem_of_getElem? (i := 13) rfl))) (notFace_of_selects (args := #[]) (mvT hZ (hw _ (List.mem_of_getElem? (i := 15) rfl)))) (mvT hZ (hw _ (List.mem_of_getElem? (i := 15) rfl))) (mvT hZ (hw _ (List.mem_of_getElem? (i := 14) rfl))) (by decide) (backOf (W := 0) (rm10 l Z a0 hw [] h0 n0 p1 A K EN OL0) hZ (hw _ (List.mem_of_getElem? (i := 16) rfl)) (hw _ (List.mem_of_getElem? (i := 6) rfl)) (by decide) (by decide)) q32a q32c (g := (mkF m 34 #[.val (.int p1), .val (.int (4 : Int32)), .val (.ref (A 4)), .val (.int (1 : Int32))] [(.ref (A 4))])) rfl (by rw [hml]; rfl) (Steps.refl _) (argsL := []) (rest := []) (lenOf own_pd1 rfl) rfl (by show 2 * 0 + _ ≤ _; exact Nat.le_of_eq rfl) (hb hby at_34) (fun _ _ => ⟨rfl, e30, (by decide : 0 + 0 ≤ _), (by decide : 0 + 0 ≤ _)⟩)
    dsimp only [Pt.U, Pt.locs, Pt.cells, Pt.slots] at X32 l32 y32 z32 st32 hQ32
    subst l32 y32 z32
    obtain ⟨rfl, N32q, e32⟩ := hQ32
    have N32 := Fr.app N28 N32q
    obtain ⟨fs, hr, hrun, hended, hW, hsame⟩ := X32.leave (v := some (.int (1 : Int32))) (fun h => by rw [Bd.returns] at h; cases h)
    refine ⟨_, _, pre1 _ ?_, hrun, hended, _, _, rfl, ?_, ⟨_, rfl⟩, hW, hsame.mono (by decide) (by decide)⟩
    · show Steps p.tables e below (s₁.setTop (mkF m 7 #[.val (.int p1), .unset, .unset, .unset] [(.int ((p1 &&& (2147483647 : Int32)) % (15 : Int32)))])) _
      rw [hk2]
      show Steps p.tables e below (s₁.setTop (mkF m 7 #[.val (.int p1), .unset, .unset, .unset] [(.int (4 : Int32))])) _
      refine XS.istoreN X0.here hx rfl (hb hby at_7) rfl (l' := #[.val (.int p1), .val (.int (4 : Int32)), .unset, .unset]) rfl ?_
      show Steps p.tables e below (s₁.setTop (mkF m 8 #[.val (.int p1), .val (.int (4 : Int32)), .unset, .unset] [])) _
      refine XS.iloadN X0.here hx rfl (hb hby at_8) rfl ?_
      show Steps p.tables e below (s₁.setTop (mkF m 9 #[.val (.int p1), .val (.int (4 : Int32)), .unset, .unset] [(.int (4 : Int32))])) _
      refine st28 _ ?_
      show Steps p.tables e below (T28.setTop (mkF m 12 #[.val (.int p1), .val (.int (4 : Int32)), .unset, .unset] [(.ref (A 4))])) _
      refine XS.astoreN X28.here hx rfl (hb hby at_12) rfl rfl (l' := #[.val (.int p1), .val (.int (4 : Int32)), .val (.ref (A 4)), .unset]) rfl ?_
      show Steps p.tables e below (T28.setTop (mkF m 13 #[.val (.int p1), .val (.int (4 : Int32)), .val (.ref (A 4)), .unset] [])) _
      refine XS.aloadN X28.here hx rfl (hb hby at_13) rfl rfl ?_
      show Steps p.tables e below (T28.setTop (mkF m 14 #[.val (.int p1), .val (.int (4 : Int32)), .val (.ref (A 4)), .unset] [(.ref (A 4))])) _
      refine st29 _ ?_
      show Steps p.tables e below (T29.setTop (mkF m 17 #[.val (.int p1), .val (.int (4 : Int32)), .val (.ref (A 4)), .unset] [(.ref (A 11)), (.ref (A 4))])) _
      refine Jvm.RoadKit.acmp (g := (mkF m 17 #[.val (.int p1), .val (.int (4 : Int32)), .val (.ref (A 4)), .unset] [(.ref (A 11)), (.ref (A 4))])) X29 hx rfl rfl rfl (pc0 := 17) (pc' := 20) (same := false) rfl (hb hby at_17) rfl (decide_eq_false fun q => (Fld.ne EN.2.2.2.2.2.2.2.2.1.2.2.2.2.2.2.2.1 EN.2.2.2.2.2.2.2.1.2.1 (fun h => by injection h with h; exact absurd h (by decide))) (Value.ref.inj q)) (by decide) (by decide) ?_
      show Steps p.tables e below (T29.setTop (mkF m 20 #[.val (.int p1), .val (.int (4 : Int32)), .val (.ref (A 4)), .unset] [])) _
      refine XS.aloadN X29.here hx rfl (hb hby at_20) rfl rfl ?_
      show Steps p.tables e below (T29.setTop (mkF m 21 #[.val (.int p1), .val (.int (4 : Int32)), .val (.ref (A 4)), .unset] [(.ref (A 4))])) _
      refine st30 _ ?_
      show Steps p.tables e below (T30.setTop (mkF m 24 #[.val (.int p1), .val (.int (4 : Int32)), .val (.ref (A 4)), .unset] [(.ref (A 14)), (.ref (A 4))])) _
      refine Jvm.RoadKit.acmp (g := (mkF m 24 #[.val (.int p1), .val (.int (4 : Int32)), .val (.ref (A 4)), .unset] [(.ref (A 14)), (.ref (A 4))])) X30 hx rfl rfl rfl (pc0 := 24) (pc' := 27) (same := false) rfl (hb hby at_24) rfl (decide_eq_false fun q => (Fld.ne EN.2.2.2.2.2.2.2.2.1.2.2.2.2.2.2.2.1 EN.2.2.2.2.2.2.2.1.2.2.1 (fun h => by injection h with h; exact absurd h (by decide))) (Value.ref.inj q)) (by decide) (by decide) ?_
      show Steps p.tables e below (T30.setTop (mkF m 27 #[.val (.int p1), .val (.int (4 : Int32)), .val (.ref (A 4)), .unset] [])) _
      refine XS.iconst X30.here hx rfl (hb hby at_27) ?_
      show Steps p.tables e below (T30.setTop (mkF m 28 #[.val (.int p1), .val (.int (4 : Int32)), .val (.ref (A 4)), .unset] [(.int (1 : Int32))])) _
      refine XS.goto X30.here hx rfl (pc0 := 28) (pc' := 32) rfl (hb hby at_28) (by decide) (by decide) ?_
      show Steps p.tables e below (T30.setTop (mkF m 32 #[.val (.int p1), .val (.int (4 : Int32)), .val (.ref (A 4)), .unset] [(.int (1 : Int32))])) _
      refine XS.istoreN X30.here hx rfl (hb hby at_32) rfl (l' := #[.val (.int p1), .val (.int (4 : Int32)), .val (.ref (A 4)), .val (.int (1 : Int32))]) rfl ?_
      show Steps p.tables e below (T30.setTop (mkF m 33 #[.val (.int p1), .val (.int (4 : Int32)), .val (.ref (A 4)), .val (.int (1 : Int32))] [])) _
      refine XS.aloadN X30.here hx rfl (hb hby at_33) rfl rfl ?_
      show Steps p.tables e below (T30.setTop (mkF m 34 #[.val (.int p1), .val (.int (4 : Int32)), .val (.ref (A 4)), .val (.int (1 : Int32))] [(.ref (A 4))])) _
      refine st32.trans ?_
      show Steps p.tables e below (T32.setTop (mkF m 37 #[.val (.int p1), .val (.int (4 : Int32)), .val (.ref (A 4)), .val (.int (1 : Int32))] [(.int (1 : Int32))])) _
      refine XS.iloadN X32.here hx rfl (hb hby at_37) rfl ?_
      show Steps p.tables e below (T32.setTop (mkF m 38 #[.val (.int p1), .val (.int (4 : Int32)), .val (.ref (A 4)), .val (.int (1 : Int32))] [(.int (1 : Int32)), (.int (1 : Int32))])) _
      refine XS.icmpNo X32.here hx rfl (hb hby at_38) rfl (teq (by decide : (1 : Int32) = (1 : Int32))).2 ?_
      show Steps p.tables e below (T32.setTop (mkF m 41 #[.val (.int p1), .val (.int (4 : Int32)), .val (.ref (A 4)), .val (.int (1 : Int32))] [])) _
      refine XS.iconst X32.here hx rfl (hb hby at_41) ?_
      show Steps p.tables e below (T32.setTop (mkF m 42 #[.val (.int p1), .val (.int (4 : Int32)), .val (.ref (A 4)), .val (.int (1 : Int32))] [(.int (1 : Int32))])) _
      refine XS.goto X32.here hx rfl (pc0 := 42) (pc' := 46) rfl (hb hby at_42) (by decide) (by decide) ?_
      show Steps p.tables e below (T32.setTop (mkF m 46 #[.val (.int p1), .val (.int (4 : Int32)), .val (.ref (A 4)), .val (.int (1 : Int32))] [(.int (1 : Int32))])) _
      exact retN X32 hx (t := .boolean) Bd.returns (by simp) (hb hby at_46) hr
    · show LQ n0 _ T32.heap _
      exact ⟨rfl, N32, trivial⟩
  | 5, _, hk2 =>
    obtain ⟨_, _, ⟨T34, L34, k34, n34⟩, -, X34, ⟨Lc34, hQ34, l34, y34, z34⟩, st34⟩ := Jvm.LawKit.callS X0 hx (y := own_m1) hown (mvT hZ (hw _ (List.mem_of_getElem? (i := 1) rfl))) (mvT hZ (hw _ (List.mem_of_getElem? (i := 2) rfl))) (mvT hZ (hw _ (List.mem_of_getElem? (i := 3) rfl))) (mvT hZ (hw _ (List.mem_of_getElem? (i := 4) rfl))) (by decide) (backOf (W := 0) (rm11 l Z a0 hw [] h0 n0 p1 A K EN OL0) hZ (hw _ (List.mem_of_getElem? (i := 4) rfl)) (hw _ (List.mem_of_getElem? (i := 3) rfl)) (by decide) (by decide)) (g := (mkF m 9 #[.val (.int p1), .val (.int (5 : Int32)), .unset, .unset] [(.int (5 : Int32))])) rfl (by rw [hml]; rfl) (argsL := [(.int (5 : Int32))]) (rest := []) (lenOf own_pd0 rfl) rfl (by show 2 * 0 + _ ≤ _; exact Nat.le_of_eq rfl) (hb hby at_9) (fun _ _ => ⟨rfl, e0, (by decide : 0 + 0 ≤ _), (by decide : 0 + 0 ≤ _)⟩)
    dsimp only [Pt.U, Pt.locs, Pt.cells, Pt.slots] at X34 l34 y34 z34 st34 hQ34
    subst l34 y34 z34
    obtain ⟨rfl, N34q, e34⟩ := hQ34
    have N34 := Fr.app N0 N34q
    obtain ⟨T35, X35, e35, st35⟩ := getS2 X34 hx hZ hown (host := "") (Or.inl (hw _ (List.mem_of_getElem? (i := 8) rfl))) Via.refl e34 (EN.2.2.1.2.2.2.2.2.2.1.ext OL0.2) (g := (mkF m 14 #[.val (.int p1), .val (.int (5 : Int32)), .val (.ref (A 5)), .unset] [(.ref (A 5))])) rfl (hb hby at_14)
    obtain ⟨T36, X36, e36, st36⟩ := getS2 X35 hx hZ hown (host := "") (Or.inl (hw _ (List.mem_of_getElem? (i := 10) rfl))) Via.refl e35 (EN.2.2.2.1.2.2.2.2.1.ext OL0.2) (g := (mkF m 21 #[.val (.int p1), .val (.int (5 : Int32)), .val (.ref (A 5)), .unset] [(.ref (A 5))])) rfl (hb hby at_21)
    obtain ⟨cq38, kq38, q38a, q38b, q38c⟩ := isOf hZ e36 (EN.2.1.2.2.2.1.ext OL0.2)
    obtain ⟨_, _, ⟨T38, L38, k38, n38⟩, -, X38, ⟨Lc38, hQ38, l38, y38, z38⟩, st38⟩ := X36.virtualBack hx (y := own_m0) (z := own_m0) hown (mvT hZ (hw _ (List.mem_of_getElem? (i := 12) rfl))) (mvT hZ (hw _ (List.mem_of_getElem? (i := 13) rfl))) (notFace_of_selects (args := #[]) (mvT hZ (hw _ (List.mem_of_getElem? (i := 15) rfl)))) (mvT hZ (hw _ (List.mem_of_getElem? (i := 15) rfl))) (mvT hZ (hw _ (List.mem_of_getElem? (i := 14) rfl))) (by decide) (backOf (W := 0) (rm12 l Z a0 hw [] h0 n0 p1 A K EN OL0) hZ (hw _ (List.mem_of_getElem? (i := 16) rfl)) (hw _ (List.mem_of_getElem? (i := 6) rfl)) (by decide) (by decide)) q38a q38c (g := (mkF m 34 #[.val (.int p1), .val (.int (5 : Int32)), .val (.ref (A 5)), .val (.int (1 : Int32))] [(.ref (A 5))])) rfl (by rw [hml]; rfl) (Steps.refl _) (argsL := []) (rest := []) (lenOf own_pd1 rfl) rfl (by show 2 * 0 + _ ≤ _; exact Nat.le_of_eq rfl) (hb hby at_34) (fun _ _ => ⟨rfl, e36, (by decide : 0 + 0 ≤ _), (by decide : 0 + 0 ≤ _)⟩)
    dsimp only [Pt.U, Pt.locs, Pt.cells, Pt.slots] at X38 l38 y38 z38 st38 hQ38
    subst l38 y38 z38
    obtain ⟨rfl, N38q, e38⟩ := hQ38
    have N38 := Fr.app N34 N38q
    obtain ⟨fs, hr, hrun, hended, hW, hsame⟩ := X38.leave (v := some (.int (1 : Int32))) (fun h => by rw [Bd.returns] at h; cases h)
    refine ⟨_, _, pre1 _ ?_, hrun, hended, _, _, rfl, ?_, ⟨_, rfl⟩, hW, hsame.mono (by decide) (by decide)⟩
    · show Steps p.tables e below (s₁.setTop (mkF m 7 #[.val (.int p1), .unset, .unset, .unset] [(.int ((p1 &&& (2147483647 : Int32)) % (15 : Int32)))])) _
      rw [hk2]
      show Steps p.tables e below (s₁.setTop (mkF m 7 #[.val (.int p1), .unset, .unset, .unset] [(.int (5 : Int32))])) _
      refine XS.istoreN X0.here hx rfl (hb hby at_7) rfl (l' := #[.val (.int p1), .val (.int (5 : Int32)), .unset, .unset]) rfl ?_
      show Steps p.tables e below (s₁.setTop (mkF m 8 #[.val (.int p1), .val (.int (5 : Int32)), .unset, .unset] [])) _
      refine XS.iloadN X0.here hx rfl (hb hby at_8) rfl ?_
      show Steps p.tables e below (s₁.setTop (mkF m 9 #[.val (.int p1), .val (.int (5 : Int32)), .unset, .unset] [(.int (5 : Int32))])) _
      refine st34 _ ?_
      show Steps p.tables e below (T34.setTop (mkF m 12 #[.val (.int p1), .val (.int (5 : Int32)), .unset, .unset] [(.ref (A 5))])) _
      refine XS.astoreN X34.here hx rfl (hb hby at_12) rfl rfl (l' := #[.val (.int p1), .val (.int (5 : Int32)), .val (.ref (A 5)), .unset]) rfl ?_
      show Steps p.tables e below (T34.setTop (mkF m 13 #[.val (.int p1), .val (.int (5 : Int32)), .val (.ref (A 5)), .unset] [])) _
      refine XS.aloadN X34.here hx rfl (hb hby at_13) rfl rfl ?_
      show Steps p.tables e below (T34.setTop (mkF m 14 #[.val (.int p1), .val (.int (5 : Int32)), .val (.ref (A 5)), .unset] [(.ref (A 5))])) _
      refine st35 _ ?_
      show Steps p.tables e below (T35.setTop (mkF m 17 #[.val (.int p1), .val (.int (5 : Int32)), .val (.ref (A 5)), .unset] [(.ref (A 11)), (.ref (A 5))])) _
      refine Jvm.RoadKit.acmp (g := (mkF m 17 #[.val (.int p1), .val (.int (5 : Int32)), .val (.ref (A 5)), .unset] [(.ref (A 11)), (.ref (A 5))])) X35 hx rfl rfl rfl (pc0 := 17) (pc' := 20) (same := false) rfl (hb hby at_17) rfl (decide_eq_false fun q => (Fld.ne EN.2.2.2.2.2.2.2.1.2.2.2.2.1 EN.2.2.2.2.2.2.2.1.2.1 (fun h => by injection h with h; exact absurd h (by decide))) (Value.ref.inj q)) (by decide) (by decide) ?_
      show Steps p.tables e below (T35.setTop (mkF m 20 #[.val (.int p1), .val (.int (5 : Int32)), .val (.ref (A 5)), .unset] [])) _
      refine XS.aloadN X35.here hx rfl (hb hby at_20) rfl rfl ?_
      show Steps p.tables e below (T35.setTop (mkF m 21 #[.val (.int p1), .val (.int (5 : Int32)), .val (.ref (A 5)), .unset] [(.ref (A 5))])) _
      refine st36 _ ?_
      show Steps p.tables e below (T36.setTop (mkF m 24 #[.val (.int p1), .val (.int (5 : Int32)), .val (.ref (A 5)), .unset] [(.ref (A 14)), (.ref (A 5))])) _
      refine Jvm.RoadKit.acmp (g := (mkF m 24 #[.val (.int p1), .val (.int (5 : Int32)), .val (.ref (A 5)), .unset] [(.ref (A 14)), (.ref (A 5))])) X36 hx rfl rfl rfl (pc0 := 24) (pc' := 27) (same := false) rfl (hb hby at_24) rfl (decide_eq_false fun q => (Fld.ne EN.2.2.2.2.2.2.2.1.2.2.2.2.1 EN.2.2.2.2.2.2.2.1.2.2.1 (fun h => by injection h with h; exact absurd h (by decide))) (Value.ref.inj q)) (by decide) (by decide) ?_
      show Steps p.tables e below (T36.setTop (mkF m 27 #[.val (.int p1), .val (.int (5 : Int32)), .val (.ref (A 5)), .unset] [])) _
      refine XS.iconst X36.here hx rfl (hb hby at_27) ?_
      show Steps p.tables e below (T36.setTop (mkF m 28 #[.val (.int p1), .val (.int (5 : Int32)), .val (.ref (A 5)), .unset] [(.int (1 : Int32))])) _
      refine XS.goto X36.here hx rfl (pc0 := 28) (pc' := 32) rfl (hb hby at_28) (by decide) (by decide) ?_
      show Steps p.tables e below (T36.setTop (mkF m 32 #[.val (.int p1), .val (.int (5 : Int32)), .val (.ref (A 5)), .unset] [(.int (1 : Int32))])) _
      refine XS.istoreN X36.here hx rfl (hb hby at_32) rfl (l' := #[.val (.int p1), .val (.int (5 : Int32)), .val (.ref (A 5)), .val (.int (1 : Int32))]) rfl ?_
      show Steps p.tables e below (T36.setTop (mkF m 33 #[.val (.int p1), .val (.int (5 : Int32)), .val (.ref (A 5)), .val (.int (1 : Int32))] [])) _
      refine XS.aloadN X36.here hx rfl (hb hby at_33) rfl rfl ?_
      show Steps p.tables e below (T36.setTop (mkF m 34 #[.val (.int p1), .val (.int (5 : Int32)), .val (.ref (A 5)), .val (.int (1 : Int32))] [(.ref (A 5))])) _
      refine st38.trans ?_
      show Steps p.tables e below (T38.setTop (mkF m 37 #[.val (.int p1), .val (.int (5 : Int32)), .val (.ref (A 5)), .val (.int (1 : Int32))] [(.int (1 : Int32))])) _
      refine XS.iloadN X38.here hx rfl (hb hby at_37) rfl ?_
      show Steps p.tables e below (T38.setTop (mkF m 38 #[.val (.int p1), .val (.int (5 : Int32)), .val (.ref (A 5)), .val (.int (1 : Int32))] [(.int (1 : Int32)), (.int (1 : Int32))])) _
      refine XS.icmpNo X38.here hx rfl (hb hby at_38) rfl (teq (by decide : (1 : Int32) = (1 : Int32))).2 ?_
      show Steps p.tables e below (T38.setTop (mkF m 41 #[.val (.int p1), .val (.int (5 : Int32)), .val (.ref (A 5)), .val (.int (1 : Int32))] [])) _
      refine XS.iconst X38.here hx rfl (hb hby at_41) ?_
      show Steps p.tables e below (T38.setTop (mkF m 42 #[.val (.int p1), .val (.int (5 : Int32)), .val (.ref (A 5)), .val (.int (1 : Int32))] [(.int (1 : Int32))])) _
      refine XS.goto X38.here hx rfl (pc0 := 42) (pc' := 46) rfl (hb hby at_42) (by decide) (by decide) ?_
      show Steps p.tables e below (T38.setTop (mkF m 46 #[.val (.int p1), .val (.int (5 : Int32)), .val (.ref (A 5)), .val (.int (1 : Int32))] [(.int (1 : Int32))])) _
      exact retN X38 hx (t := .boolean) Bd.returns (by simp) (hb hby at_46) hr
    · show LQ n0 _ T38.heap _
      exact ⟨rfl, N38, trivial⟩
  | 6, _, hk2 =>
    obtain ⟨_, _, ⟨T40, L40, k40, n40⟩, -, X40, ⟨Lc40, hQ40, l40, y40, z40⟩, st40⟩ := Jvm.LawKit.callS X0 hx (y := own_m1) hown (mvT hZ (hw _ (List.mem_of_getElem? (i := 1) rfl))) (mvT hZ (hw _ (List.mem_of_getElem? (i := 2) rfl))) (mvT hZ (hw _ (List.mem_of_getElem? (i := 3) rfl))) (mvT hZ (hw _ (List.mem_of_getElem? (i := 4) rfl))) (by decide) (backOf (W := 0) (rm13 l Z a0 hw [] h0 n0 p1 A K EN OL0) hZ (hw _ (List.mem_of_getElem? (i := 4) rfl)) (hw _ (List.mem_of_getElem? (i := 3) rfl)) (by decide) (by decide)) (g := (mkF m 9 #[.val (.int p1), .val (.int (6 : Int32)), .unset, .unset] [(.int (6 : Int32))])) rfl (by rw [hml]; rfl) (argsL := [(.int (6 : Int32))]) (rest := []) (lenOf own_pd0 rfl) rfl (by show 2 * 0 + _ ≤ _; exact Nat.le_of_eq rfl) (hb hby at_9) (fun _ _ => ⟨rfl, e0, (by decide : 0 + 0 ≤ _), (by decide : 0 + 0 ≤ _)⟩)
    dsimp only [Pt.U, Pt.locs, Pt.cells, Pt.slots] at X40 l40 y40 z40 st40 hQ40
    subst l40 y40 z40
    obtain ⟨rfl, N40q, e40⟩ := hQ40
    have N40 := Fr.app N0 N40q
    obtain ⟨T41, X41, e41, st41⟩ := getS2 X40 hx hZ hown (host := "") (Or.inl (hw _ (List.mem_of_getElem? (i := 8) rfl))) Via.refl e40 (EN.2.2.1.2.2.2.2.2.2.1.ext OL0.2) (g := (mkF m 14 #[.val (.int p1), .val (.int (6 : Int32)), .val (.ref (A 6)), .unset] [(.ref (A 6))])) rfl (hb hby at_14)
    obtain ⟨T42, X42, e42, st42⟩ := getS2 X41 hx hZ hown (host := "") (Or.inl (hw _ (List.mem_of_getElem? (i := 10) rfl))) Via.refl e41 (EN.2.2.2.1.2.2.2.2.1.ext OL0.2) (g := (mkF m 21 #[.val (.int p1), .val (.int (6 : Int32)), .val (.ref (A 6)), .unset] [(.ref (A 6))])) rfl (hb hby at_21)
    obtain ⟨cq44, kq44, q44a, q44b, q44c⟩ := isOf hZ e42 (EN.2.1.2.2.2.2.2.1.ext OL0.2)
    obtain ⟨_, _, ⟨T44, L44, k44, n44⟩, -, X44, ⟨Lc44, hQ44, l44, y44, z44⟩, st44⟩ := X42.virtualBack hx (y := own_m0) (z := own_m0) hown (mvT hZ (hw _ (List.mem_of_getElem? (i := 12) rfl))) (mvT hZ (hw _ (List.mem_of_getElem? (i := 13) rfl))) (notFace_of_selects (args := #[]) (mvT hZ (hw _ (List.mem_of_getElem? (i := 15) rfl)))) (mvT hZ (hw _ (List.mem_of_getElem? (i := 15) rfl))) (mvT hZ (hw _ (List.mem_of_getElem? (i := 14) rfl))) (by decide) (backOf (W := 0) (rm14 l Z a0 hw [] h0 n0 p1 A K EN OL0) hZ (hw _ (List.mem_of_getElem? (i := 16) rfl)) (hw _ (List.mem_of_getElem? (i := 6) rfl)) (by decide) (by decide)) q44a q44c (g := (mkF m 34 #[.val (.int p1), .val (.int (6 : Int32)), .val (.ref (A 6)), .val (.int (1 : Int32))] [(.ref (A 6))])) rfl (by rw [hml]; rfl) (Steps.refl _) (argsL := []) (rest := []) (lenOf own_pd1 rfl) rfl (by show 2 * 0 + _ ≤ _; exact Nat.le_of_eq rfl) (hb hby at_34) (fun _ _ => ⟨rfl, e42, (by decide : 0 + 0 ≤ _), (by decide : 0 + 0 ≤ _)⟩)
    dsimp only [Pt.U, Pt.locs, Pt.cells, Pt.slots] at X44 l44 y44 z44 st44 hQ44
    subst l44 y44 z44
    obtain ⟨rfl, N44q, e44⟩ := hQ44
    have N44 := Fr.app N40 N44q
    obtain ⟨fs, hr, hrun, hended, hW, hsame⟩ := X44.leave (v := some (.int (1 : Int32))) (fun h => by rw [Bd.returns] at h; cases h)
    refine ⟨_, _, pre1 _ ?_, hrun, hended, _, _, rfl, ?_, ⟨_, rfl⟩, hW, hsame.mono (by decide) (by decide)⟩
    · show Steps p.tables e below (s₁.setTop (mkF m 7 #[.val (.int p1), .unset, .unset, .unset] [(.int ((p1 &&& (2147483647 : Int32)) % (15 : Int32)))])) _
      rw [hk2]
      show Steps p.tables e below (s₁.setTop (mkF m 7 #[.val (.int p1), .unset, .unset, .unset] [(.int (6 : Int32))])) _
      refine XS.istoreN X0.here hx rfl (hb hby at_7) rfl (l' := #[.val (.int p1), .val (.int (6 : Int32)), .unset, .unset]) rfl ?_
      show Steps p.tables e below (s₁.setTop (mkF m 8 #[.val (.int p1), .val (.int (6 : Int32)), .unset, .unset] [])) _
      refine XS.iloadN X0.here hx rfl (hb hby at_8) rfl ?_
      show Steps p.tables e below (s₁.setTop (mkF m 9 #[.val (.int p1), .val (.int (6 : Int32)), .unset, .unset] [(.int (6 : Int32))])) _
      refine st40 _ ?_
      show Steps p.tables e below (T40.setTop (mkF m 12 #[.val (.int p1), .val (.int (6 : Int32)), .unset, .unset] [(.ref (A 6))])) _
      refine XS.astoreN X40.here hx rfl (hb hby at_12) rfl rfl (l' := #[.val (.int p1), .val (.int (6 : Int32)), .val (.ref (A 6)), .unset]) rfl ?_
      show Steps p.tables e below (T40.setTop (mkF m 13 #[.val (.int p1), .val (.int (6 : Int32)), .val (.ref (A 6)), .unset] [])) _
      refine XS.aloadN X40.here hx rfl (hb hby at_13) rfl rfl ?_
      show Steps p.tables e below (T40.setTop (mkF m 14 #[.val (.int p1), .val (.int (6 : Int32)), .val (.ref (A 6)), .unset] [(.ref (A 6))])) _
      refine st41 _ ?_
      show Steps p.tables e below (T41.setTop (mkF m 17 #[.val (.int p1), .val (.int (6 : Int32)), .val (.ref (A 6)), .unset] [(.ref (A 11)), (.ref (A 6))])) _
      refine Jvm.RoadKit.acmp (g := (mkF m 17 #[.val (.int p1), .val (.int (6 : Int32)), .val (.ref (A 6)), .unset] [(.ref (A 11)), (.ref (A 6))])) X41 hx rfl rfl rfl (pc0 := 17) (pc' := 20) (same := false) rfl (hb hby at_17) rfl (decide_eq_false fun q => (Fld.ne EN.2.2.2.2.2.2.2.1.2.2.2.2.2.2.1 EN.2.2.2.2.2.2.2.1.2.1 (fun h => by injection h with h; exact absurd h (by decide))) (Value.ref.inj q)) (by decide) (by decide) ?_
      show Steps p.tables e below (T41.setTop (mkF m 20 #[.val (.int p1), .val (.int (6 : Int32)), .val (.ref (A 6)), .unset] [])) _
      refine XS.aloadN X41.here hx rfl (hb hby at_20) rfl rfl ?_
      show Steps p.tables e below (T41.setTop (mkF m 21 #[.val (.int p1), .val (.int (6 : Int32)), .val (.ref (A 6)), .unset] [(.ref (A 6))])) _
      refine st42 _ ?_
      show Steps p.tables e below (T42.setTop (mkF m 24 #[.val (.int p1), .val (.int (6 : Int32)), .val (.ref (A 6)), .unset] [(.ref (A 14)), (.ref (A 6))])) _
      refine Jvm.RoadKit.acmp (g := (mkF m 24 #[.val (.int p1), .val (.int (6 : Int32)), .val (.ref (A 6)), .unset] [(.ref (A 14)), (.ref (A 6))])) X42 hx rfl rfl rfl (pc0 := 24) (pc' := 27) (same := false) rfl (hb hby at_24) rfl (decide_eq_false fun q => (Fld.ne EN.2.2.2.2.2.2.2.1.2.2.2.2.2.2.1 EN.2.2.2.2.2.2.2.1.2.2.1 (fun h => by injection h with h; exact absurd h (by decide))) (Value.ref.inj q)) (by decide) (by decide) ?_
      show Steps p.tables e below (T42.setTop (mkF m 27 #[.val (.int p1), .val (.int (6 : Int32)), .val (.ref (A 6)), .unset] [])) _
      refine XS.iconst X42.here hx rfl (hb hby at_27) ?_
      show Steps p.tables e below (T42.setTop (mkF m 28 #[.val (.int p1), .val (.int (6 : Int32)), .val (.ref (A 6)), .unset] [(.int (1 : Int32))])) _
      refine XS.goto X42.here hx rfl (pc0 := 28) (pc' := 32) rfl (hb hby at_28) (by decide) (by decide) ?_
      show Steps p.tables e below (T42.setTop (mkF m 32 #[.val (.int p1), .val (.int (6 : Int32)), .val (.ref (A 6)), .unset] [(.int (1 : Int32))])) _
      refine XS.istoreN X42.here hx rfl (hb hby at_32) rfl (l' := #[.val (.int p1), .val (.int (6 : Int32)), .val (.ref (A 6)), .val (.int (1 : Int32))]) rfl ?_
      show Steps p.tables e below (T42.setTop (mkF m 33 #[.val (.int p1), .val (.int (6 : Int32)), .val (.ref (A 6)), .val (.int (1 : Int32))] [])) _
      refine XS.aloadN X42.here hx rfl (hb hby at_33) rfl rfl ?_
      show Steps p.tables e below (T42.setTop (mkF m 34 #[.val (.int p1), .val (.int (6 : Int32)), .val (.ref (A 6)), .val (.int (1 : Int32))] [(.ref (A 6))])) _
      refine st44.trans ?_
      show Steps p.tables e below (T44.setTop (mkF m 37 #[.val (.int p1), .val (.int (6 : Int32)), .val (.ref (A 6)), .val (.int (1 : Int32))] [(.int (1 : Int32))])) _
      refine XS.iloadN X44.here hx rfl (hb hby at_37) rfl ?_
      show Steps p.tables e below (T44.setTop (mkF m 38 #[.val (.int p1), .val (.int (6 : Int32)), .val (.ref (A 6)), .val (.int (1 : Int32))] [(.int (1 : Int32)), (.int (1 : Int32))])) _
      refine XS.icmpNo X44.here hx rfl (hb hby at_38) rfl (teq (by decide : (1 : Int32) = (1 : Int32))).2 ?_
      show Steps p.tables e below (T44.setTop (mkF m 41 #[.val (.int p1), .val (.int (6 : Int32)), .val (.ref (A 6)), .val (.int (1 : Int32))] [])) _
      refine XS.iconst X44.here hx rfl (hb hby at_41) ?_
      show Steps p.tables e below (T44.setTop (mkF m 42 #[.val (.int p1), .val (.int (6 : Int32)), .val (.ref (A 6)), .val (.int (1 : Int32))] [(.int (1 : Int32))])) _
      refine XS.goto X44.here hx rfl (pc0 := 42) (pc' := 46) rfl (hb hby at_42) (by decide) (by decide) ?_
      show Steps p.tables e below (T44.setTop (mkF m 46 #[.val (.int p1), .val (.int (6 : Int32)), .val (.ref (A 6)), .val (.int (1 : Int32))] [(.int (1 : Int32))])) _
      exact retN X44 hx (t := .boolean) Bd.returns (by simp) (hb hby at_46) hr
    · show LQ n0 _ T44.heap _
      exact ⟨rfl, N44, trivial⟩
  | 7, _, hk2 =>
    obtain ⟨_, _, ⟨T46, L46, k46, n46⟩, -, X46, ⟨Lc46, hQ46, l46, y46, z46⟩, st46⟩ := Jvm.LawKit.callS X0 hx (y := own_m1) hown (mvT hZ (hw _ (List.mem_of_getElem? (i := 1) rfl))) (mvT hZ (hw _ (List.mem_of_getElem? (i := 2) rfl))) (mvT hZ (hw _ (List.mem_of_getElem? (i := 3) rfl))) (mvT hZ (hw _ (List.mem_of_getElem? (i := 4) rfl))) (by decide) (backOf (W := 0) (rm15 l Z a0 hw [] h0 n0 p1 A K EN OL0) hZ (hw _ (List.mem_of_getElem? (i := 4) rfl)) (hw _ (List.mem_of_getElem? (i := 3) rfl)) (by decide) (by decide)) (g := (mkF m 9 #[.val (.int p1), .val (.int (7 : Int32)), .unset, .unset] [(.int (7 : Int32))])) rfl (by rw [hml]; rfl) (argsL := [(.int (7 : Int32))]) (rest := []) (lenOf own_pd0 rfl) rfl (by show 2 * 0 + _ ≤ _; exact Nat.le_of_eq rfl) (hb hby at_9) (fun _ _ => ⟨rfl, e0, (by decide : 0 + 0 ≤ _), (by decide : 0 + 0 ≤ _)⟩)
    dsimp only [Pt.U, Pt.locs, Pt.cells, Pt.slots] at X46 l46 y46 z46 st46 hQ46
    subst l46 y46 z46
    obtain ⟨rfl, N46q, e46⟩ := hQ46
    have N46 := Fr.app N0 N46q
    obtain ⟨T47, X47, e47, st47⟩ := getS2 X46 hx hZ hown (host := "") (Or.inl (hw _ (List.mem_of_getElem? (i := 8) rfl))) Via.refl e46 (EN.2.2.1.2.2.2.2.2.2.1.ext OL0.2) (g := (mkF m 14 #[.val (.int p1), .val (.int (7 : Int32)), .val (.ref (A 7)), .unset] [(.ref (A 7))])) rfl (hb hby at_14)
    obtain ⟨T48, X48, e48, st48⟩ := getS2 X47 hx hZ hown (host := "") (Or.inl (hw _ (List.mem_of_getElem? (i := 10) rfl))) Via.refl e47 (EN.2.2.2.1.2.2.2.2.1.ext OL0.2) (g := (mkF m 21 #[.val (.int p1), .val (.int (7 : Int32)), .val (.ref (A 7)), .unset] [(.ref (A 7))])) rfl (hb hby at_21)
    obtain ⟨cq50, kq50, q50a, q50b, q50c⟩ := isOf hZ e48 (EN.2.1.2.2.2.2.2.2.2.1.ext OL0.2)
    obtain ⟨_, _, ⟨T50, L50, k50, n50⟩, -, X50, ⟨Lc50, hQ50, l50, y50, z50⟩, st50⟩ := X48.virtualBack hx (y := own_m0) (z := own_m0) hown (mvT hZ (hw _ (List.mem_of_getElem? (i := 12) rfl))) (mvT hZ (hw _ (List.mem_of_getElem? (i := 13) rfl))) (notFace_of_selects (args := #[]) (mvT hZ (hw _ (List.mem_of_getElem? (i := 15) rfl)))) (mvT hZ (hw _ (List.mem_of_getElem? (i := 15) rfl))) (mvT hZ (hw _ (List.mem_of_getElem? (i := 14) rfl))) (by decide) (backOf (W := 0) (rm16 l Z a0 hw [] h0 n0 p1 A K EN OL0) hZ (hw _ (List.mem_of_getElem? (i := 16) rfl)) (hw _ (List.mem_of_getElem? (i := 6) rfl)) (by decide) (by decide)) q50a q50c (g := (mkF m 34 #[.val (.int p1), .val (.int (7 : Int32)), .val (.ref (A 7)), .val (.int (1 : Int32))] [(.ref (A 7))])) rfl (by rw [hml]; rfl) (Steps.refl _) (argsL := []) (rest := []) (lenOf own_pd1 rfl) rfl (by show 2 * 0 + _ ≤ _; exact Nat.le_of_eq rfl) (hb hby at_34) (fun _ _ => ⟨rfl, e48, (by decide : 0 + 0 ≤ _), (by decide : 0 + 0 ≤ _)⟩)
    dsimp only [Pt.U, Pt.locs, Pt.cells, Pt.slots] at X50 l50 y50 z50 st50 hQ50
    subst l50 y50 z50
    obtain ⟨rfl, N50q, e50⟩ := hQ50
    have N50 := Fr.app N46 N50q
    obtain ⟨fs, hr, hrun, hended, hW, hsame⟩ := X50.leave (v := some (.int (1 : Int32))) (fun h => by rw [Bd.returns] at h; cases h)
    refine ⟨_, _, pre1 _ ?_, hrun, hended, _, _, rfl, ?_, ⟨_, rfl⟩, hW, hsame.mono (by decide) (by decide)⟩
    · show Steps p.tables e below (s₁.setTop (mkF m 7 #[.val (.int p1), .unset, .unset, .unset] [(.int ((p1 &&& (2147483647 : Int32)) % (15 : Int32)))])) _
      rw [hk2]
      show Steps p.tables e below (s₁.setTop (mkF m 7 #[.val (.int p1), .unset, .unset, .unset] [(.int (7 : Int32))])) _
      refine XS.istoreN X0.here hx rfl (hb hby at_7) rfl (l' := #[.val (.int p1), .val (.int (7 : Int32)), .unset, .unset]) rfl ?_
      show Steps p.tables e below (s₁.setTop (mkF m 8 #[.val (.int p1), .val (.int (7 : Int32)), .unset, .unset] [])) _
      refine XS.iloadN X0.here hx rfl (hb hby at_8) rfl ?_
      show Steps p.tables e below (s₁.setTop (mkF m 9 #[.val (.int p1), .val (.int (7 : Int32)), .unset, .unset] [(.int (7 : Int32))])) _
      refine st46 _ ?_
      show Steps p.tables e below (T46.setTop (mkF m 12 #[.val (.int p1), .val (.int (7 : Int32)), .unset, .unset] [(.ref (A 7))])) _
      refine XS.astoreN X46.here hx rfl (hb hby at_12) rfl rfl (l' := #[.val (.int p1), .val (.int (7 : Int32)), .val (.ref (A 7)), .unset]) rfl ?_
      show Steps p.tables e below (T46.setTop (mkF m 13 #[.val (.int p1), .val (.int (7 : Int32)), .val (.ref (A 7)), .unset] [])) _
      refine XS.aloadN X46.here hx rfl (hb hby at_13) rfl rfl ?_
      show Steps p.tables e below (T46.setTop (mkF m 14 #[.val (.int p1), .val (.int (7 : Int32)), .val (.ref (A 7)), .unset] [(.ref (A 7))])) _
      refine st47 _ ?_
      show Steps p.tables e below (T47.setTop (mkF m 17 #[.val (.int p1), .val (.int (7 : Int32)), .val (.ref (A 7)), .unset] [(.ref (A 11)), (.ref (A 7))])) _
      refine Jvm.RoadKit.acmp (g := (mkF m 17 #[.val (.int p1), .val (.int (7 : Int32)), .val (.ref (A 7)), .unset] [(.ref (A 11)), (.ref (A 7))])) X47 hx rfl rfl rfl (pc0 := 17) (pc' := 20) (same := false) rfl (hb hby at_17) rfl (decide_eq_false fun q => (Fld.ne EN.2.2.2.2.2.2.2.2.1.1 EN.2.2.2.2.2.2.2.1.2.1 (fun h => by injection h with h; exact absurd h (by decide))) (Value.ref.inj q)) (by decide) (by decide) ?_
      show Steps p.tables e below (T47.setTop (mkF m 20 #[.val (.int p1), .val (.int (7 : Int32)), .val (.ref (A 7)), .unset] [])) _
      refine XS.aloadN X47.here hx rfl (hb hby at_20) rfl rfl ?_
      show Steps p.tables e below (T47.setTop (mkF m 21 #[.val (.int p1), .val (.int (7 : Int32)), .val (.ref (A 7)), .unset] [(.ref (A 7))])) _
      refine st48 _ ?_
      show Steps p.tables e below (T48.setTop (mkF m 24 #[.val (.int p1), .val (.int (7 : Int32)), .val (.ref (A 7)), .unset] [(.ref (A 14)), (.ref (A 7))])) _
      refine Jvm.RoadKit.acmp (g := (mkF m 24 #[.val (.int p1), .val (.int (7 : Int32)), .val (.ref (A 7)), .unset] [(.ref (A 14)), (.ref (A 7))])) X48 hx rfl rfl rfl (pc0 := 24) (pc' := 27) (same := false) rfl (hb hby at_24) rfl (decide_eq_false fun q => (Fld.ne EN.2.2.2.2.2.2.2.2.1.1 EN.2.2.2.2.2.2.2.1.2.2.1 (fun h => by injection h with h; exact absurd h (by decide))) (Value.ref.inj q)) (by decide) (by decide) ?_
      show Steps p.tables e below (T48.setTop (mkF m 27 #[.val (.int p1), .val (.int (7 : Int32)), .val (.ref (A 7)), .unset] [])) _
      refine XS.iconst X48.here hx rfl (hb hby at_27) ?_
      show Steps p.tables e below (T48.setTop (mkF m 28 #[.val (.int p1), .val (.int (7 : Int32)), .val (.ref (A 7)), .unset] [(.int (1 : Int32))])) _
      refine XS.goto X48.here hx rfl (pc0 := 28) (pc' := 32) rfl (hb hby at_28) (by decide) (by decide) ?_
      show Steps p.tables e below (T48.setTop (mkF m 32 #[.val (.int p1), .val (.int (7 : Int32)), .val (.ref (A 7)), .unset] [(.int (1 : Int32))])) _
      refine XS.istoreN X48.here hx rfl (hb hby at_32) rfl (l' := #[.val (.int p1), .val (.int (7 : Int32)), .val (.ref (A 7)), .val (.int (1 : Int32))]) rfl ?_
      show Steps p.tables e below (T48.setTop (mkF m 33 #[.val (.int p1), .val (.int (7 : Int32)), .val (.ref (A 7)), .val (.int (1 : Int32))] [])) _
      refine XS.aloadN X48.here hx rfl (hb hby at_33) rfl rfl ?_
      show Steps p.tables e below (T48.setTop (mkF m 34 #[.val (.int p1), .val (.int (7 : Int32)), .val (.ref (A 7)), .val (.int (1 : Int32))] [(.ref (A 7))])) _
      refine st50.trans ?_
      show Steps p.tables e below (T50.setTop (mkF m 37 #[.val (.int p1), .val (.int (7 : Int32)), .val (.ref (A 7)), .val (.int (1 : Int32))] [(.int (1 : Int32))])) _
      refine XS.iloadN X50.here hx rfl (hb hby at_37) rfl ?_
      show Steps p.tables e below (T50.setTop (mkF m 38 #[.val (.int p1), .val (.int (7 : Int32)), .val (.ref (A 7)), .val (.int (1 : Int32))] [(.int (1 : Int32)), (.int (1 : Int32))])) _
      refine XS.icmpNo X50.here hx rfl (hb hby at_38) rfl (teq (by decide : (1 : Int32) = (1 : Int32))).2 ?_
      show Steps p.tables e below (T50.setTop (mkF m 41 #[.val (.int p1), .val (.int (7 : Int32)), .val (.ref (A 7)), .val (.int (1 : Int32))] [])) _
      refine XS.iconst X50.here hx rfl (hb hby at_41) ?_
      show Steps p.tables e below (T50.setTop (mkF m 42 #[.val (.int p1), .val (.int (7 : Int32)), .val (.ref (A 7)), .val (.int (1 : Int32))] [(.int (1 : Int32))])) _
      refine XS.goto X50.here hx rfl (pc0 := 42) (pc' := 46) rfl (hb hby at_42) (by decide) (by decide) ?_
      show Steps p.tables e below (T50.setTop (mkF m 46 #[.val (.int p1), .val (.int (7 : Int32)), .val (.ref (A 7)), .val (.int (1 : Int32))] [(.int (1 : Int32))])) _
      exact retN X50 hx (t := .boolean) Bd.returns (by simp) (hb hby at_46) hr
    · show LQ n0 _ T50.heap _
      exact ⟨rfl, N50, trivial⟩
  | 8, _, hk2 =>
    obtain ⟨_, _, ⟨T52, L52, k52, n52⟩, -, X52, ⟨Lc52, hQ52, l52, y52, z52⟩, st52⟩ := Jvm.LawKit.callS X0 hx (y := own_m1) hown (mvT hZ (hw _ (List.mem_of_getElem? (i := 1) rfl))) (mvT hZ (hw _ (List.mem_of_getElem? (i := 2) rfl))) (mvT hZ (hw _ (List.mem_of_getElem? (i := 3) rfl))) (mvT hZ (hw _ (List.mem_of_getElem? (i := 4) rfl))) (by decide) (backOf (W := 0) (rm17 l Z a0 hw [] h0 n0 p1 A K EN OL0) hZ (hw _ (List.mem_of_getElem? (i := 4) rfl)) (hw _ (List.mem_of_getElem? (i := 3) rfl)) (by decide) (by decide)) (g := (mkF m 9 #[.val (.int p1), .val (.int (8 : Int32)), .unset, .unset] [(.int (8 : Int32))])) rfl (by rw [hml]; rfl) (argsL := [(.int (8 : Int32))]) (rest := []) (lenOf own_pd0 rfl) rfl (by show 2 * 0 + _ ≤ _; exact Nat.le_of_eq rfl) (hb hby at_9) (fun _ _ => ⟨rfl, e0, (by decide : 0 + 0 ≤ _), (by decide : 0 + 0 ≤ _)⟩)
    dsimp only [Pt.U, Pt.locs, Pt.cells, Pt.slots] at X52 l52 y52 z52 st52 hQ52
    subst l52 y52 z52
    obtain ⟨rfl, N52q, e52⟩ := hQ52
    have N52 := Fr.app N0 N52q
    obtain ⟨T53, X53, e53, st53⟩ := getS2 X52 hx hZ hown (host := "") (Or.inl (hw _ (List.mem_of_getElem? (i := 8) rfl))) Via.refl e52 (EN.2.2.1.2.2.2.2.2.2.1.ext OL0.2) (g := (mkF m 14 #[.val (.int p1), .val (.int (8 : Int32)), .val (.ref (A 8)), .unset] [(.ref (A 8))])) rfl (hb hby at_14)
    obtain ⟨T54, X54, e54, st54⟩ := getS2 X53 hx hZ hown (host := "") (Or.inl (hw _ (List.mem_of_getElem? (i := 10) rfl))) Via.refl e53 (EN.2.2.2.1.2.2.2.2.1.ext OL0.2) (g := (mkF m 21 #[.val (.int p1), .val (.int (8 : Int32)), .val (.ref (A 8)), .unset] [(.ref (A 8))])) rfl (hb hby at_21)
    obtain ⟨cq56, kq56, q56a, q56b, q56c⟩ := isOf hZ e54 (EN.2.2.1.2.1.ext OL0.2)
    obtain ⟨_, _, ⟨T56, L56, k56, n56⟩, -, X56, ⟨Lc56, hQ56, l56, y56, z56⟩, st56⟩ := X54.virtualBack hx (y := own_m0) (z := own_m0) hown (mvT hZ (hw _ (List.mem_of_getElem? (i := 12) rfl))) (mvT hZ (hw _ (List.mem_of_getElem? (i := 13) rfl))) (notFace_of_selects (args := #[]) (mvT hZ (hw _ (List.mem_of_getElem? (i := 15) rfl)))) (mvT hZ (hw _ (List.mem_of_getElem? (i := 15) rfl))) (mvT hZ (hw _ (List.mem_of_getElem? (i := 14) rfl))) (by decide) (backOf (W := 0) (rm18 l Z a0 hw [] h0 n0 p1 A K EN OL0) hZ (hw _ (List.mem_of_getElem? (i := 16) rfl)) (hw _ (List.mem_of_getElem? (i := 6) rfl)) (by decide) (by decide)) q56a q56c (g := (mkF m 34 #[.val (.int p1), .val (.int (8 : Int32)), .val (.ref (A 8)), .val (.int (1 : Int32))] [(.ref (A 8))])) rfl (by rw [hml]; rfl) (Steps.refl _) (argsL := []) (rest := []) (lenOf own_pd1 rfl) rfl (by show 2 * 0 + _ ≤ _; exact Nat.le_of_eq rfl) (hb hby at_34) (fun _ _ => ⟨rfl, e54, (by decide : 0 + 0 ≤ _), (by decide : 0 + 0 ≤ _)⟩)
    dsimp only [Pt.U, Pt.locs, Pt.cells, Pt.slots] at X56 l56 y56 z56 st56 hQ56
    subst l56 y56 z56
    obtain ⟨rfl, N56q, e56⟩ := hQ56
    have N56 := Fr.app N52 N56q
    obtain ⟨fs, hr, hrun, hended, hW, hsame⟩ := X56.leave (v := some (.int (1 : Int32))) (fun h => by rw [Bd.returns] at h; cases h)
    refine ⟨_, _, pre1 _ ?_, hrun, hended, _, _, rfl, ?_, ⟨_, rfl⟩, hW, hsame.mono (by decide) (by decide)⟩
    · show Steps p.tables e below (s₁.setTop (mkF m 7 #[.val (.int p1), .unset, .unset, .unset] [(.int ((p1 &&& (2147483647 : Int32)) % (15 : Int32)))])) _
      rw [hk2]
      show Steps p.tables e below (s₁.setTop (mkF m 7 #[.val (.int p1), .unset, .unset, .unset] [(.int (8 : Int32))])) _
      refine XS.istoreN X0.here hx rfl (hb hby at_7) rfl (l' := #[.val (.int p1), .val (.int (8 : Int32)), .unset, .unset]) rfl ?_
      show Steps p.tables e below (s₁.setTop (mkF m 8 #[.val (.int p1), .val (.int (8 : Int32)), .unset, .unset] [])) _
      refine XS.iloadN X0.here hx rfl (hb hby at_8) rfl ?_
      show Steps p.tables e below (s₁.setTop (mkF m 9 #[.val (.int p1), .val (.int (8 : Int32)), .unset, .unset] [(.int (8 : Int32))])) _
      refine st52 _ ?_
      show Steps p.tables e below (T52.setTop (mkF m 12 #[.val (.int p1), .val (.int (8 : Int32)), .unset, .unset] [(.ref (A 8))])) _
      refine XS.astoreN X52.here hx rfl (hb hby at_12) rfl rfl (l' := #[.val (.int p1), .val (.int (8 : Int32)), .val (.ref (A 8)), .unset]) rfl ?_
      show Steps p.tables e below (T52.setTop (mkF m 13 #[.val (.int p1), .val (.int (8 : Int32)), .val (.ref (A 8)), .unset] [])) _
      refine XS.aloadN X52.here hx rfl (hb hby at_13) rfl rfl ?_
      show Steps p.tables e below (T52.setTop (mkF m 14 #[.val (.int p1), .val (.int (8 : Int32)), .val (.ref (A 8)), .unset] [(.ref (A 8))])) _
      refine st53 _ ?_
      show Steps p.tables e below (T53.setTop (mkF m 17 #[.val (.int p1), .val (.int (8 : Int32)), .val (.ref (A 8)), .unset] [(.ref (A 11)), (.ref (A 8))])) _
      refine Jvm.RoadKit.acmp (g := (mkF m 17 #[.val (.int p1), .val (.int (8 : Int32)), .val (.ref (A 8)), .unset] [(.ref (A 11)), (.ref (A 8))])) X53 hx rfl rfl rfl (pc0 := 17) (pc' := 20) (same := false) rfl (hb hby at_17) rfl (decide_eq_false fun q => (Fld.ne EN.2.2.2.2.2.2.2.2.1.2.2.2.2.1 EN.2.2.2.2.2.2.2.1.2.1 (fun h => by injection h with h; exact absurd h (by decide))) (Value.ref.inj q)) (by decide) (by decide) ?_
      show Steps p.tables e below (T53.setTop (mkF m 20 #[.val (.int p1), .val (.int (8 : Int32)), .val (.ref (A 8)), .unset] [])) _
      refine XS.aloadN X53.here hx rfl (hb hby at_20) rfl rfl ?_
      show Steps p.tables e below (T53.setTop (mkF m 21 #[.val (.int p1), .val (.int (8 : Int32)), .val (.ref (A 8)), .unset] [(.ref (A 8))])) _
      refine st54 _ ?_
      show Steps p.tables e below (T54.setTop (mkF m 24 #[.val (.int p1), .val (.int (8 : Int32)), .val (.ref (A 8)), .unset] [(.ref (A 14)), (.ref (A 8))])) _
      refine Jvm.RoadKit.acmp (g := (mkF m 24 #[.val (.int p1), .val (.int (8 : Int32)), .val (.ref (A 8)), .unset] [(.ref (A 14)), (.ref (A 8))])) X54 hx rfl rfl rfl (pc0 := 24) (pc' := 27) (same := false) rfl (hb hby at_24) rfl (decide_eq_false fun q => (Fld.ne EN.2.2.2.2.2.2.2.2.1.2.2.2.2.1 EN.2.2.2.2.2.2.2.1.2.2.1 (fun h => by injection h with h; exact absurd h (by decide))) (Value.ref.inj q)) (by decide) (by decide) ?_
      show Steps p.tables e below (T54.setTop (mkF m 27 #[.val (.int p1), .val (.int (8 : Int32)), .val (.ref (A 8)), .unset] [])) _
      refine XS.iconst X54.here hx rfl (hb hby at_27) ?_
      show Steps p.tables e below (T54.setTop (mkF m 28 #[.val (.int p1), .val (.int (8 : Int32)), .val (.ref (A 8)), .unset] [(.int (1 : Int32))])) _
      refine XS.goto X54.here hx rfl (pc0 := 28) (pc' := 32) rfl (hb hby at_28) (by decide) (by decide) ?_
      show Steps p.tables e below (T54.setTop (mkF m 32 #[.val (.int p1), .val (.int (8 : Int32)), .val (.ref (A 8)), .unset] [(.int (1 : Int32))])) _
      refine XS.istoreN X54.here hx rfl (hb hby at_32) rfl (l' := #[.val (.int p1), .val (.int (8 : Int32)), .val (.ref (A 8)), .val (.int (1 : Int32))]) rfl ?_
      show Steps p.tables e below (T54.setTop (mkF m 33 #[.val (.int p1), .val (.int (8 : Int32)), .val (.ref (A 8)), .val (.int (1 : Int32))] [])) _
      refine XS.aloadN X54.here hx rfl (hb hby at_33) rfl rfl ?_
      show Steps p.tables e below (T54.setTop (mkF m 34 #[.val (.int p1), .val (.int (8 : Int32)), .val (.ref (A 8)), .val (.int (1 : Int32))] [(.ref (A 8))])) _
      refine st56.trans ?_
      show Steps p.tables e below (T56.setTop (mkF m 37 #[.val (.int p1), .val (.int (8 : Int32)), .val (.ref (A 8)), .val (.int (1 : Int32))] [(.int (1 : Int32))])) _
      refine XS.iloadN X56.here hx rfl (hb hby at_37) rfl ?_
      show Steps p.tables e below (T56.setTop (mkF m 38 #[.val (.int p1), .val (.int (8 : Int32)), .val (.ref (A 8)), .val (.int (1 : Int32))] [(.int (1 : Int32)), (.int (1 : Int32))])) _
      refine XS.icmpNo X56.here hx rfl (hb hby at_38) rfl (teq (by decide : (1 : Int32) = (1 : Int32))).2 ?_
      show Steps p.tables e below (T56.setTop (mkF m 41 #[.val (.int p1), .val (.int (8 : Int32)), .val (.ref (A 8)), .val (.int (1 : Int32))] [])) _
      refine XS.iconst X56.here hx rfl (hb hby at_41) ?_
      show Steps p.tables e below (T56.setTop (mkF m 42 #[.val (.int p1), .val (.int (8 : Int32)), .val (.ref (A 8)), .val (.int (1 : Int32))] [(.int (1 : Int32))])) _
      refine XS.goto X56.here hx rfl (pc0 := 42) (pc' := 46) rfl (hb hby at_42) (by decide) (by decide) ?_
      show Steps p.tables e below (T56.setTop (mkF m 46 #[.val (.int p1), .val (.int (8 : Int32)), .val (.ref (A 8)), .val (.int (1 : Int32))] [(.int (1 : Int32))])) _
      exact retN X56 hx (t := .boolean) Bd.returns (by simp) (hb hby at_46) hr
    · show LQ n0 _ T56.heap _
      exact ⟨rfl, N56, trivial⟩
  | 9, _, hk2 =>
    obtain ⟨_, _, ⟨T58, L58, k58, n58⟩, -, X58, ⟨Lc58, hQ58, l58, y58, z58⟩, st58⟩ := Jvm.LawKit.callS X0 hx (y := own_m1) hown (mvT hZ (hw _ (List.mem_of_getElem? (i := 1) rfl))) (mvT hZ (hw _ (List.mem_of_getElem? (i := 2) rfl))) (mvT hZ (hw _ (List.mem_of_getElem? (i := 3) rfl))) (mvT hZ (hw _ (List.mem_of_getElem? (i := 4) rfl))) (by decide) (backOf (W := 0) (rm19 l Z a0 hw [] h0 n0 p1 A K EN OL0) hZ (hw _ (List.mem_of_getElem? (i := 4) rfl)) (hw _ (List.mem_of_getElem? (i := 3) rfl)) (by decide) (by decide)) (g := (mkF m 9 #[.val (.int p1), .val (.int (9 : Int32)), .unset, .unset] [(.int (9 : Int32))])) rfl (by rw [hml]; rfl) (argsL := [(.int (9 : Int32))]) (rest := []) (lenOf own_pd0 rfl) rfl (by show 2 * 0 + _ ≤ _; exact Nat.le_of_eq rfl) (hb hby at_9) (fun _ _ => ⟨rfl, e0, (by decide : 0 + 0 ≤ _), (by decide : 0 + 0 ≤ _)⟩)
    dsimp only [Pt.U, Pt.locs, Pt.cells, Pt.slots] at X58 l58 y58 z58 st58 hQ58
    subst l58 y58 z58
    obtain ⟨rfl, N58q, e58⟩ := hQ58
    have N58 := Fr.app N0 N58q
    obtain ⟨T59, X59, e59, st59⟩ := getS2 X58 hx hZ hown (host := "") (Or.inl (hw _ (List.mem_of_getElem? (i := 8) rfl))) Via.refl e58 (EN.2.2.1.2.2.2.2.2.2.1.ext OL0.2) (g := (mkF m 14 #[.val (.int p1), .val (.int (9 : Int32)), .val (.ref (A 9)), .unset] [(.ref (A 9))])) rfl (hb hby at_14)
    obtain ⟨T60, X60, e60, st60⟩ := getS2 X59 hx hZ hown (host := "") (Or.inl (hw _ (List.mem_of_getElem? (i := 10) rfl))) Via.refl e59 (EN.2.2.2.1.2.2.2.2.1.ext OL0.2) (g := (mkF m 21 #[.val (.int p1), .val (.int (9 : Int32)), .val (.ref (A 9)), .unset] [(.ref (A 9))])) rfl (hb hby at_21)
    obtain ⟨cq62, kq62, q62a, q62b, q62c⟩ := isOf hZ e60 (EN.2.2.1.2.2.2.1.ext OL0.2)
    obtain ⟨_, _, ⟨T62, L62, k62, n62⟩, -, X62, ⟨Lc62, hQ62, l62, y62, z62⟩, st62⟩ := X60.virtualBack hx (y := own_m0) (z := own_m0) hown (mvT hZ (hw _ (List.mem_of_getElem? (i := 12) rfl))) (mvT hZ (hw _ (List.mem_of_getElem? (i := 13) rfl))) (notFace_of_selects (args := #[]) (mvT hZ (hw _ (List.mem_of_getElem? (i := 15) rfl)))) (mvT hZ (hw _ (List.mem_of_getElem? (i := 15) rfl))) (mvT hZ (hw _ (List.mem_of_getElem? (i := 14) rfl))) (by decide) (backOf (W := 0) (rm20 l Z a0 hw [] h0 n0 p1 A K EN OL0) hZ (hw _ (List.mem_of_getElem? (i := 16) rfl)) (hw _ (List.mem_of_getElem? (i := 6) rfl)) (by decide) (by decide)) q62a q62c (g := (mkF m 34 #[.val (.int p1), .val (.int (9 : Int32)), .val (.ref (A 9)), .val (.int (1 : Int32))] [(.ref (A 9))])) rfl (by rw [hml]; rfl) (Steps.refl _) (argsL := []) (rest := []) (lenOf own_pd1 rfl) rfl (by show 2 * 0 + _ ≤ _; exact Nat.le_of_eq rfl) (hb hby at_34) (fun _ _ => ⟨rfl, e60, (by decide : 0 + 0 ≤ _), (by decide : 0 + 0 ≤ _)⟩)
    dsimp only [Pt.U, Pt.locs, Pt.cells, Pt.slots] at X62 l62 y62 z62 st62 hQ62
    subst l62 y62 z62
    obtain ⟨rfl, N62q, e62⟩ := hQ62
    have N62 := Fr.app N58 N62q
    obtain ⟨fs, hr, hrun, hended, hW, hsame⟩ := X62.leave (v := some (.int (1 : Int32))) (fun h => by rw [Bd.returns] at h; cases h)
    refine ⟨_, _, pre1 _ ?_, hrun, hended, _, _, rfl, ?_, ⟨_, rfl⟩, hW, hsame.mono (by decide) (by decide)⟩
    · show Steps p.tables e below (s₁.setTop (mkF m 7 #[.val (.int p1), .unset, .unset, .unset] [(.int ((p1 &&& (2147483647 : Int32)) % (15 : Int32)))])) _
      rw [hk2]
      show Steps p.tables e below (s₁.setTop (mkF m 7 #[.val (.int p1), .unset, .unset, .unset] [(.int (9 : Int32))])) _
      refine XS.istoreN X0.here hx rfl (hb hby at_7) rfl (l' := #[.val (.int p1), .val (.int (9 : Int32)), .unset, .unset]) rfl ?_
      show Steps p.tables e below (s₁.setTop (mkF m 8 #[.val (.int p1), .val (.int (9 : Int32)), .unset, .unset] [])) _
      refine XS.iloadN X0.here hx rfl (hb hby at_8) rfl ?_
      show Steps p.tables e below (s₁.setTop (mkF m 9 #[.val (.int p1), .val (.int (9 : Int32)), .unset, .unset] [(.int (9 : Int32))])) _
      refine st58 _ ?_
      show Steps p.tables e below (T58.setTop (mkF m 12 #[.val (.int p1), .val (.int (9 : Int32)), .unset, .unset] [(.ref (A 9))])) _
      refine XS.astoreN X58.here hx rfl (hb hby at_12) rfl rfl (l' := #[.val (.int p1), .val (.int (9 : Int32)), .val (.ref (A 9)), .unset]) rfl ?_
      show Steps p.tables e below (T58.setTop (mkF m 13 #[.val (.int p1), .val (.int (9 : Int32)), .val (.ref (A 9)), .unset] [])) _
      refine XS.aloadN X58.here hx rfl (hb hby at_13) rfl rfl ?_
      show Steps p.tables e below (T58.setTop (mkF m 14 #[.val (.int p1), .val (.int (9 : Int32)), .val (.ref (A 9)), .unset] [(.ref (A 9))])) _
      refine st59 _ ?_
      show Steps p.tables e below (T59.setTop (mkF m 17 #[.val (.int p1), .val (.int (9 : Int32)), .val (.ref (A 9)), .unset] [(.ref (A 11)), (.ref (A 9))])) _
      refine Jvm.RoadKit.acmp (g := (mkF m 17 #[.val (.int p1), .val (.int (9 : Int32)), .val (.ref (A 9)), .unset] [(.ref (A 11)), (.ref (A 9))])) X59 hx rfl rfl rfl (pc0 := 17) (pc' := 20) (same := false) rfl (hb hby at_17) rfl (decide_eq_false fun q => (Fld.ne EN.2.2.2.2.2.2.2.2.2.1.1 EN.2.2.2.2.2.2.2.1.2.1 (fun h => by injection h with h; exact absurd h (by decide))) (Value.ref.inj q)) (by decide) (by decide) ?_
      show Steps p.tables e below (T59.setTop (mkF m 20 #[.val (.int p1), .val (.int (9 : Int32)), .val (.ref (A 9)), .unset] [])) _
      refine XS.aloadN X59.here hx rfl (hb hby at_20) rfl rfl ?_
      show Steps p.tables e below (T59.setTop (mkF m 21 #[.val (.int p1), .val (.int (9 : Int32)), .val (.ref (A 9)), .unset] [(.ref (A 9))])) _
      refine st60 _ ?_
      show Steps p.tables e below (T60.setTop (mkF m 24 #[.val (.int p1), .val (.int (9 : Int32)), .val (.ref (A 9)), .unset] [(.ref (A 14)), (.ref (A 9))])) _
      refine Jvm.RoadKit.acmp (g := (mkF m 24 #[.val (.int p1), .val (.int (9 : Int32)), .val (.ref (A 9)), .unset] [(.ref (A 14)), (.ref (A 9))])) X60 hx rfl rfl rfl (pc0 := 24) (pc' := 27) (same := false) rfl (hb hby at_24) rfl (decide_eq_false fun q => (Fld.ne EN.2.2.2.2.2.2.2.2.2.1.1 EN.2.2.2.2.2.2.2.1.2.2.1 (fun h => by injection h with h; exact absurd h (by decide))) (Value.ref.inj q)) (by decide) (by decide) ?_
      show Steps p.tables e below (T60.setTop (mkF m 27 #[.val (.int p1), .val (.int (9 : Int32)), .val (.ref (A 9)), .unset] [])) _
      refine XS.iconst X60.here hx rfl (hb hby at_27) ?_
      show Steps p.tables e below (T60.setTop (mkF m 28 #[.val (.int p1), .val (.int (9 : Int32)), .val (.ref (A 9)), .unset] [(.int (1 : Int32))])) _
      refine XS.goto X60.here hx rfl (pc0 := 28) (pc' := 32) rfl (hb hby at_28) (by decide) (by decide) ?_
      show Steps p.tables e below (T60.setTop (mkF m 32 #[.val (.int p1), .val (.int (9 : Int32)), .val (.ref (A 9)), .unset] [(.int (1 : Int32))])) _
      refine XS.istoreN X60.here hx rfl (hb hby at_32) rfl (l' := #[.val (.int p1), .val (.int (9 : Int32)), .val (.ref (A 9)), .val (.int (1 : Int32))]) rfl ?_
      show Steps p.tables e below (T60.setTop (mkF m 33 #[.val (.int p1), .val (.int (9 : Int32)), .val (.ref (A 9)), .val (.int (1 : Int32))] [])) _
      refine XS.aloadN X60.here hx rfl (hb hby at_33) rfl rfl ?_
      show Steps p.tables e below (T60.setTop (mkF m 34 #[.val (.int p1), .val (.int (9 : Int32)), .val (.ref (A 9)), .val (.int (1 : Int32))] [(.ref (A 9))])) _
      refine st62.trans ?_
      show Steps p.tables e below (T62.setTop (mkF m 37 #[.val (.int p1), .val (.int (9 : Int32)), .val (.ref (A 9)), .val (.int (1 : Int32))] [(.int (1 : Int32))])) _
      refine XS.iloadN X62.here hx rfl (hb hby at_37) rfl ?_
      show Steps p.tables e below (T62.setTop (mkF m 38 #[.val (.int p1), .val (.int (9 : Int32)), .val (.ref (A 9)), .val (.int (1 : Int32))] [(.int (1 : Int32)), (.int (1 : Int32))])) _
      refine XS.icmpNo X62.here hx rfl (hb hby at_38) rfl (teq (by decide : (1 : Int32) = (1 : Int32))).2 ?_
      show Steps p.tables e below (T62.setTop (mkF m 41 #[.val (.int p1), .val (.int (9 : Int32)), .val (.ref (A 9)), .val (.int (1 : Int32))] [])) _
      refine XS.iconst X62.here hx rfl (hb hby at_41) ?_
      show Steps p.tables e below (T62.setTop (mkF m 42 #[.val (.int p1), .val (.int (9 : Int32)), .val (.ref (A 9)), .val (.int (1 : Int32))] [(.int (1 : Int32))])) _
      refine XS.goto X62.here hx rfl (pc0 := 42) (pc' := 46) rfl (hb hby at_42) (by decide) (by decide) ?_
      show Steps p.tables e below (T62.setTop (mkF m 46 #[.val (.int p1), .val (.int (9 : Int32)), .val (.ref (A 9)), .val (.int (1 : Int32))] [(.int (1 : Int32))])) _
      exact retN X62 hx (t := .boolean) Bd.returns (by simp) (hb hby at_46) hr
    · show LQ n0 _ T62.heap _
      exact ⟨rfl, N62, trivial⟩
  | 10, _, hk2 =>
    obtain ⟨_, _, ⟨T64, L64, k64, n64⟩, -, X64, ⟨Lc64, hQ64, l64, y64, z64⟩, st64⟩ := Jvm.LawKit.callS X0 hx (y := own_m1) hown (mvT hZ (hw _ (List.mem_of_getElem? (i := 1) rfl))) (mvT hZ (hw _ (List.mem_of_getElem? (i := 2) rfl))) (mvT hZ (hw _ (List.mem_of_getElem? (i := 3) rfl))) (mvT hZ (hw _ (List.mem_of_getElem? (i := 4) rfl))) (by decide) (backOf (W := 0) (rm21 l Z a0 hw [] h0 n0 p1 A K EN OL0) hZ (hw _ (List.mem_of_getElem? (i := 4) rfl)) (hw _ (List.mem_of_getElem? (i := 3) rfl)) (by decide) (by decide)) (g := (mkF m 9 #[.val (.int p1), .val (.int (10 : Int32)), .unset, .unset] [(.int (10 : Int32))])) rfl (by rw [hml]; rfl) (argsL := [(.int (10 : Int32))]) (rest := []) (lenOf own_pd0 rfl) rfl (by show 2 * 0 + _ ≤ _; exact Nat.le_of_eq rfl) (hb hby at_9) (fun _ _ => ⟨rfl, e0, (by decide : 0 + 0 ≤ _), (by decide : 0 + 0 ≤ _)⟩)
    dsimp only [Pt.U, Pt.locs, Pt.cells, Pt.slots] at X64 l64 y64 z64 st64 hQ64
    subst l64 y64 z64
    obtain ⟨rfl, N64q, e64⟩ := hQ64
    have N64 := Fr.app N0 N64q
    obtain ⟨T65, X65, e65, st65⟩ := getS2 X64 hx hZ hown (host := "") (Or.inl (hw _ (List.mem_of_getElem? (i := 8) rfl))) Via.refl e64 (EN.2.2.1.2.2.2.2.2.2.1.ext OL0.2) (g := (mkF m 14 #[.val (.int p1), .val (.int (10 : Int32)), .val (.ref (A 10)), .unset] [(.ref (A 10))])) rfl (hb hby at_14)
    obtain ⟨T66, X66, e66, st66⟩ := getS2 X65 hx hZ hown (host := "") (Or.inl (hw _ (List.mem_of_getElem? (i := 10) rfl))) Via.refl e65 (EN.2.2.2.1.2.2.2.2.1.ext OL0.2) (g := (mkF m 21 #[.val (.int p1), .val (.int (10 : Int32)), .val (.ref (A 10)), .unset] [(.ref (A 10))])) rfl (hb hby at_21)
    obtain ⟨cq68, kq68, q68a, q68b, q68c⟩ := isOf hZ e66 (EN.2.2.1.2.2.2.2.2.1.ext OL0.2)
    obtain ⟨_, _, ⟨T68, L68, k68, n68⟩, -, X68, ⟨Lc68, hQ68, l68, y68, z68⟩, st68⟩ := X66.virtualBack hx (y := own_m0) (z := own_m0) hown (mvT hZ (hw _ (List.mem_of_getElem? (i := 12) rfl))) (mvT hZ (hw _ (List.mem_of_getElem? (i := 13) rfl))) (notFace_of_selects (args := #[]) (mvT hZ (hw _ (List.mem_of_getElem? (i := 15) rfl)))) (mvT hZ (hw _ (List.mem_of_getElem? (i := 15) rfl))) (mvT hZ (hw _ (List.mem_of_getElem? (i := 14) rfl))) (by decide) (backOf (W := 0) (rm22 l Z a0 hw [] h0 n0 p1 A K EN OL0) hZ (hw _ (List.mem_of_getElem? (i := 16) rfl)) (hw _ (List.mem_of_getElem? (i := 6) rfl)) (by decide) (by decide)) q68a q68c (g := (mkF m 34 #[.val (.int p1), .val (.int (10 : Int32)), .val (.ref (A 10)), .val (.int (1 : Int32))] [(.ref (A 10))])) rfl (by rw [hml]; rfl) (Steps.refl _) (argsL := []) (rest := []) (lenOf own_pd1 rfl) rfl (by show 2 * 0 + _ ≤ _; exact Nat.le_of_eq rfl) (hb hby at_34) (fun _ _ => ⟨rfl, e66, (by decide : 0 + 0 ≤ _), (by decide : 0 + 0 ≤ _)⟩)
    dsimp only [Pt.U, Pt.locs, Pt.cells, Pt.slots] at X68 l68 y68 z68 st68 hQ68
    subst l68 y68 z68
    obtain ⟨rfl, N68q, e68⟩ := hQ68
    have N68 := Fr.app N64 N68q
    obtain ⟨fs, hr, hrun, hended, hW, hsame⟩ := X68.leave (v := some (.int (1 : Int32))) (fun h => by rw [Bd.returns] at h; cases h)
    refine ⟨_, _, pre1 _ ?_, hrun, hended, _, _, rfl, ?_, ⟨_, rfl⟩, hW, hsame.mono (by decide) (by decide)⟩
    · show Steps p.tables e below (s₁.setTop (mkF m 7 #[.val (.int p1), .unset, .unset, .unset] [(.int ((p1 &&& (2147483647 : Int32)) % (15 : Int32)))])) _
      rw [hk2]
      show Steps p.tables e below (s₁.setTop (mkF m 7 #[.val (.int p1), .unset, .unset, .unset] [(.int (10 : Int32))])) _
      refine XS.istoreN X0.here hx rfl (hb hby at_7) rfl (l' := #[.val (.int p1), .val (.int (10 : Int32)), .unset, .unset]) rfl ?_
      show Steps p.tables e below (s₁.setTop (mkF m 8 #[.val (.int p1), .val (.int (10 : Int32)), .unset, .unset] [])) _
      refine XS.iloadN X0.here hx rfl (hb hby at_8) rfl ?_
      show Steps p.tables e below (s₁.setTop (mkF m 9 #[.val (.int p1), .val (.int (10 : Int32)), .unset, .unset] [(.int (10 : Int32))])) _
      refine st64 _ ?_
      show Steps p.tables e below (T64.setTop (mkF m 12 #[.val (.int p1), .val (.int (10 : Int32)), .unset, .unset] [(.ref (A 10))])) _
      refine XS.astoreN X64.here hx rfl (hb hby at_12) rfl rfl (l' := #[.val (.int p1), .val (.int (10 : Int32)), .val (.ref (A 10)), .unset]) rfl ?_
      show Steps p.tables e below (T64.setTop (mkF m 13 #[.val (.int p1), .val (.int (10 : Int32)), .val (.ref (A 10)), .unset] [])) _
      refine XS.aloadN X64.here hx rfl (hb hby at_13) rfl rfl ?_
      show Steps p.tables e below (T64.setTop (mkF m 14 #[.val (.int p1), .val (.int (10 : Int32)), .val (.ref (A 10)), .unset] [(.ref (A 10))])) _
      refine st65 _ ?_
      show Steps p.tables e below (T65.setTop (mkF m 17 #[.val (.int p1), .val (.int (10 : Int32)), .val (.ref (A 10)), .unset] [(.ref (A 11)), (.ref (A 10))])) _
      refine Jvm.RoadKit.acmp (g := (mkF m 17 #[.val (.int p1), .val (.int (10 : Int32)), .val (.ref (A 10)), .unset] [(.ref (A 11)), (.ref (A 10))])) X65 hx rfl rfl rfl (pc0 := 17) (pc' := 20) (same := false) rfl (hb hby at_17) rfl (decide_eq_false fun q => (Fld.ne EN.2.2.2.2.2.2.2.2.1.2.2.2.1 EN.2.2.2.2.2.2.2.1.2.1 (fun h => by injection h with h; exact absurd h (by decide))) (Value.ref.inj q)) (by decide) (by decide) ?_
      show Steps p.tables e below (T65.setTop (mkF m 20 #[.val (.int p1), .val (.int (10 : Int32)), .val (.ref (A 10)), .unset] [])) _
      refine XS.aloadN X65.here hx rfl (hb hby at_20) rfl rfl ?_
      show Steps p.tables e below (T65.setTop (mkF m 21 #[.val (.int p1), .val (.int (10 : Int32)), .val (.ref (A 10)), .unset] [(.ref (A 10))])) _
      refine st66 _ ?_
      show Steps p.tables e below (T66.setTop (mkF m 24 #[.val (.int p1), .val (.int (10 : Int32)), .val (.ref (A 10)), .unset] [(.ref (A 14)), (.ref (A 10))])) _
      refine Jvm.RoadKit.acmp (g := (mkF m 24 #[.val (.int p1), .val (.int (10 : Int32)), .val (.ref (A 10)), .unset] [(.ref (A 14)), (.ref (A 10))])) X66 hx rfl rfl rfl (pc0 := 24) (pc' := 27) (same := false) rfl (hb hby at_24) rfl (decide_eq_false fun q => (Fld.ne EN.2.2.2.2.2.2.2.2.1.2.2.2.1 EN.2.2.2.2.2.2.2.1.2.2.1 (fun h => by injection h with h; exact absurd h (by decide))) (Value.ref.inj q)) (by decide) (by decide) ?_
      show Steps p.tables e below (T66.setTop (mkF m 27 #[.val (.int p1), .val (.int (10 : Int32)), .val (.ref (A 10)), .unset] [])) _
      refine XS.iconst X66.here hx rfl (hb hby at_27) ?_
      show Steps p.tables e below (T66.setTop (mkF m 28 #[.val (.int p1), .val (.int (10 : Int32)), .val (.ref (A 10)), .unset] [(.int (1 : Int32))])) _
      refine XS.goto X66.here hx rfl (pc0 := 28) (pc' := 32) rfl (hb hby at_28) (by decide) (by decide) ?_
      show Steps p.tables e below (T66.setTop (mkF m 32 #[.val (.int p1), .val (.int (10 : Int32)), .val (.ref (A 10)), .unset] [(.int (1 : Int32))])) _
      refine XS.istoreN X66.here hx rfl (hb hby at_32) rfl (l' := #[.val (.int p1), .val (.int (10 : Int32)), .val (.ref (A 10)), .val (.int (1 : Int32))]) rfl ?_
      show Steps p.tables e below (T66.setTop (mkF m 33 #[.val (.int p1), .val (.int (10 : Int32)), .val (.ref (A 10)), .val (.int (1 : Int32))] [])) _
      refine XS.aloadN X66.here hx rfl (hb hby at_33) rfl rfl ?_
      show Steps p.tables e below (T66.setTop (mkF m 34 #[.val (.int p1), .val (.int (10 : Int32)), .val (.ref (A 10)), .val (.int (1 : Int32))] [(.ref (A 10))])) _
      refine st68.trans ?_
      show Steps p.tables e below (T68.setTop (mkF m 37 #[.val (.int p1), .val (.int (10 : Int32)), .val (.ref (A 10)), .val (.int (1 : Int32))] [(.int (1 : Int32))])) _
      refine XS.iloadN X68.here hx rfl (hb hby at_37) rfl ?_
      show Steps p.tables e below (T68.setTop (mkF m 38 #[.val (.int p1), .val (.int (10 : Int32)), .val (.ref (A 10)), .val (.int (1 : Int32))] [(.int (1 : Int32)), (.int (1 : Int32))])) _
      refine XS.icmpNo X68.here hx rfl (hb hby at_38) rfl (teq (by decide : (1 : Int32) = (1 : Int32))).2 ?_
      show Steps p.tables e below (T68.setTop (mkF m 41 #[.val (.int p1), .val (.int (10 : Int32)), .val (.ref (A 10)), .val (.int (1 : Int32))] [])) _
      refine XS.iconst X68.here hx rfl (hb hby at_41) ?_
      show Steps p.tables e below (T68.setTop (mkF m 42 #[.val (.int p1), .val (.int (10 : Int32)), .val (.ref (A 10)), .val (.int (1 : Int32))] [(.int (1 : Int32))])) _
      refine XS.goto X68.here hx rfl (pc0 := 42) (pc' := 46) rfl (hb hby at_42) (by decide) (by decide) ?_
      show Steps p.tables e below (T68.setTop (mkF m 46 #[.val (.int p1), .val (.int (10 : Int32)), .val (.ref (A 10)), .val (.int (1 : Int32))] [(.int (1 : Int32))])) _
      exact retN X68 hx (t := .boolean) Bd.returns (by simp) (hb hby at_46) hr
    · show LQ n0 _ T68.heap _
      exact ⟨rfl, N68, trivial⟩
  | 11, _, hk2 =>
    obtain ⟨_, _, ⟨T70, L70, k70, n70⟩, -, X70, ⟨Lc70, hQ70, l70, y70, z70⟩, st70⟩ := Jvm.LawKit.callS X0 hx (y := own_m1) hown (mvT hZ (hw _ (List.mem_of_getElem? (i := 1) rfl))) (mvT hZ (hw _ (List.mem_of_getElem? (i := 2) rfl))) (mvT hZ (hw _ (List.mem_of_getElem? (i := 3) rfl))) (mvT hZ (hw _ (List.mem_of_getElem? (i := 4) rfl))) (by decide) (backOf (W := 0) (rm23 l Z a0 hw [] h0 n0 p1 A K EN OL0) hZ (hw _ (List.mem_of_getElem? (i := 4) rfl)) (hw _ (List.mem_of_getElem? (i := 3) rfl)) (by decide) (by decide)) (g := (mkF m 9 #[.val (.int p1), .val (.int (11 : Int32)), .unset, .unset] [(.int (11 : Int32))])) rfl (by rw [hml]; rfl) (argsL := [(.int (11 : Int32))]) (rest := []) (lenOf own_pd0 rfl) rfl (by show 2 * 0 + _ ≤ _; exact Nat.le_of_eq rfl) (hb hby at_9) (fun _ _ => ⟨rfl, e0, (by decide : 0 + 0 ≤ _), (by decide : 0 + 0 ≤ _)⟩)
    dsimp only [Pt.U, Pt.locs, Pt.cells, Pt.slots] at X70 l70 y70 z70 st70 hQ70
    subst l70 y70 z70
    obtain ⟨rfl, N70q, e70⟩ := hQ70
    have N70 := Fr.app N0 N70q
    obtain ⟨T71, X71, e71, st71⟩ := getS2 X70 hx hZ hown (host := "") (Or.inl (hw _ (List.mem_of_getElem? (i := 8) rfl))) Via.refl e70 (EN.2.2.1.2.2.2.2.2.2.1.ext OL0.2) (g := (mkF m 14 #[.val (.int p1), .val (.int (11 : Int32)), .val (.ref (A 11)), .unset] [(.ref (A 11))])) rfl (hb hby at_14)
    obtain ⟨cq73, kq73, q73a, q73b, q73c⟩ := isOf hZ e71 (EN.2.2.1.2.2.2.2.2.2.2.1.ext OL0.2)
    obtain ⟨_, _, ⟨T73, L73, k73, n73⟩, -, X73, ⟨Lc73, hQ73, l73, y73, z73⟩, st73⟩ := X71.virtualBack hx (y := own_m0) (z := own_m0) hown (mvT hZ (hw _ (List.mem_of_getElem? (i := 12) rfl))) (mvT hZ (hw _ (List.mem_of_getElem? (i := 13) rfl))) (notFace_of_selects (args := #[]) (mvT hZ (hw _ (List.mem_of_getElem? (i := 15) rfl)))) (mvT hZ (hw _ (List.mem_of_getElem? (i := 15) rfl))) (mvT hZ (hw _ (List.mem_of_getElem? (i := 14) rfl))) (by decide) (backOf (W := 0) (rm24 l Z a0 hw [] h0 n0 p1 A K EN OL0) hZ (hw _ (List.mem_of_getElem? (i := 16) rfl)) (hw _ (List.mem_of_getElem? (i := 6) rfl)) (by decide) (by decide)) q73a q73c (g := (mkF m 34 #[.val (.int p1), .val (.int (11 : Int32)), .val (.ref (A 11)), .val (.int (0 : Int32))] [(.ref (A 11))])) rfl (by rw [hml]; rfl) (Steps.refl _) (argsL := []) (rest := []) (lenOf own_pd1 rfl) rfl (by show 2 * 0 + _ ≤ _; exact Nat.le_of_eq rfl) (hb hby at_34) (fun _ _ => ⟨rfl, e71, (by decide : 0 + 0 ≤ _), (by decide : 0 + 0 ≤ _)⟩)
    dsimp only [Pt.U, Pt.locs, Pt.cells, Pt.slots] at X73 l73 y73 z73 st73 hQ73
    subst l73 y73 z73
    obtain ⟨rfl, N73q, e73⟩ := hQ73
    have N73 := Fr.app N70 N73q
    obtain ⟨fs, hr, hrun, hended, hW, hsame⟩ := X73.leave (v := some (.int (1 : Int32))) (fun h => by rw [Bd.returns] at h; cases h)
    refine ⟨_, _, pre1 _ ?_, hrun, hended, _, _, rfl, ?_, ⟨_, rfl⟩, hW, hsame.mono (by decide) (by decide)⟩
    · show Steps p.tables e below (s₁.setTop (mkF m 7 #[.val (.int p1), .unset, .unset, .unset] [(.int ((p1 &&& (2147483647 : Int32)) % (15 : Int32)))])) _
      rw [hk2]
      show Steps p.tables e below (s₁.setTop (mkF m 7 #[.val (.int p1), .unset, .unset, .unset] [(.int (11 : Int32))])) _
      refine XS.istoreN X0.here hx rfl (hb hby at_7) rfl (l' := #[.val (.int p1), .val (.int (11 : Int32)), .unset, .unset]) rfl ?_
      show Steps p.tables e below (s₁.setTop (mkF m 8 #[.val (.int p1), .val (.int (11 : Int32)), .unset, .unset] [])) _
      refine XS.iloadN X0.here hx rfl (hb hby at_8) rfl ?_
      show Steps p.tables e below (s₁.setTop (mkF m 9 #[.val (.int p1), .val (.int (11 : Int32)), .unset, .unset] [(.int (11 : Int32))])) _
      refine st70 _ ?_
      show Steps p.tables e below (T70.setTop (mkF m 12 #[.val (.int p1), .val (.int (11 : Int32)), .unset, .unset] [(.ref (A 11))])) _
      refine XS.astoreN X70.here hx rfl (hb hby at_12) rfl rfl (l' := #[.val (.int p1), .val (.int (11 : Int32)), .val (.ref (A 11)), .unset]) rfl ?_
      show Steps p.tables e below (T70.setTop (mkF m 13 #[.val (.int p1), .val (.int (11 : Int32)), .val (.ref (A 11)), .unset] [])) _
      refine XS.aloadN X70.here hx rfl (hb hby at_13) rfl rfl ?_
      show Steps p.tables e below (T70.setTop (mkF m 14 #[.val (.int p1), .val (.int (11 : Int32)), .val (.ref (A 11)), .unset] [(.ref (A 11))])) _
      refine st71 _ ?_
      show Steps p.tables e below (T71.setTop (mkF m 17 #[.val (.int p1), .val (.int (11 : Int32)), .val (.ref (A 11)), .unset] [(.ref (A 11)), (.ref (A 11))])) _
      refine Jvm.RoadKit.acmp (g := (mkF m 17 #[.val (.int p1), .val (.int (11 : Int32)), .val (.ref (A 11)), .unset] [(.ref (A 11)), (.ref (A 11))])) X71 hx rfl rfl rfl (pc0 := 17) (pc' := 31) (same := true) rfl (hb hby at_17) rfl (decide_eq_true rfl) (by decide) (by decide) ?_
      show Steps p.tables e below (T71.setTop (mkF m 31 #[.val (.int p1), .val (.int (11 : Int32)), .val (.ref (A 11)), .unset] [])) _
      refine XS.iconst X71.here hx rfl (hb hby at_31) ?_
      show Steps p.tables e below (T71.setTop (mkF m 32 #[.val (.int p1), .val (.int (11 : Int32)), .val (.ref (A 11)), .unset] [(.int (0 : Int32))])) _
      refine XS.istoreN X71.here hx rfl (hb hby at_32) rfl (l' := #[.val (.int p1), .val (.int (11 : Int32)), .val (.ref (A 11)), .val (.int (0 : Int32))]) rfl ?_
      show Steps p.tables e below (T71.setTop (mkF m 33 #[.val (.int p1), .val (.int (11 : Int32)), .val (.ref (A 11)), .val (.int (0 : Int32))] [])) _
      refine XS.aloadN X71.here hx rfl (hb hby at_33) rfl rfl ?_
      show Steps p.tables e below (T71.setTop (mkF m 34 #[.val (.int p1), .val (.int (11 : Int32)), .val (.ref (A 11)), .val (.int (0 : Int32))] [(.ref (A 11))])) _
      refine st73.trans ?_
      show Steps p.tables e below (T73.setTop (mkF m 37 #[.val (.int p1), .val (.int (11 : Int32)), .val (.ref (A 11)), .val (.int (0 : Int32))] [(.int (0 : Int32))])) _
      refine XS.iloadN X73.here hx rfl (hb hby at_37) rfl ?_
      show Steps p.tables e below (T73.setTop (mkF m 38 #[.val (.int p1), .val (.int (11 : Int32)), .val (.ref (A 11)), .val (.int (0 : Int32))] [(.int (0 : Int32)), (.int (0 : Int32))])) _
      refine XS.icmpNo X73.here hx rfl (hb hby at_38) rfl (teq (by decide : (0 : Int32) = (0 : Int32))).2 ?_
      show Steps p.tables e below (T73.setTop (mkF m 41 #[.val (.int p1), .val (.int (11 : Int32)), .val (.ref (A 11)), .val (.int (0 : Int32))] [])) _
      refine XS.iconst X73.here hx rfl (hb hby at_41) ?_
      show Steps p.tables e below (T73.setTop (mkF m 42 #[.val (.int p1), .val (.int (11 : Int32)), .val (.ref (A 11)), .val (.int (0 : Int32))] [(.int (1 : Int32))])) _
      refine XS.goto X73.here hx rfl (pc0 := 42) (pc' := 46) rfl (hb hby at_42) (by decide) (by decide) ?_
      show Steps p.tables e below (T73.setTop (mkF m 46 #[.val (.int p1), .val (.int (11 : Int32)), .val (.ref (A 11)), .val (.int (0 : Int32))] [(.int (1 : Int32))])) _
      exact retN X73 hx (t := .boolean) Bd.returns (by simp) (hb hby at_46) hr
    · show LQ n0 _ T73.heap _
      exact ⟨rfl, N73, trivial⟩
  | 12, _, hk2 =>
    obtain ⟨_, _, ⟨T75, L75, k75, n75⟩, -, X75, ⟨Lc75, hQ75, l75, y75, z75⟩, st75⟩ := Jvm.LawKit.callS X0 hx (y := own_m1) hown (mvT hZ (hw _ (List.mem_of_getElem? (i := 1) rfl))) (mvT hZ (hw _ (List.mem_of_getElem? (i := 2) rfl))) (mvT hZ (hw _ (List.mem_of_getElem? (i := 3) rfl))) (mvT hZ (hw _ (List.mem_of_getElem? (i := 4) rfl))) (by decide) (backOf (W := 0) (rm25 l Z a0 hw [] h0 n0 p1 A K EN OL0) hZ (hw _ (List.mem_of_getElem? (i := 4) rfl)) (hw _ (List.mem_of_getElem? (i := 3) rfl)) (by decide) (by decide)) (g := (mkF m 9 #[.val (.int p1), .val (.int (12 : Int32)), .unset, .unset] [(.int (12 : Int32))])) rfl (by rw [hml]; rfl) (argsL := [(.int (12 : Int32))]) (rest := []) (lenOf own_pd0 rfl) rfl (by show 2 * 0 + _ ≤ _; exact Nat.le_of_eq rfl) (hb hby at_9) (fun _ _ => ⟨rfl, e0, (by decide : 0 + 0 ≤ _), (by decide : 0 + 0 ≤ _)⟩)
    dsimp only [Pt.U, Pt.locs, Pt.cells, Pt.slots] at X75 l75 y75 z75 st75 hQ75
    subst l75 y75 z75
    obtain ⟨rfl, N75q, e75⟩ := hQ75
    have N75 := Fr.app N0 N75q
    obtain ⟨T76, X76, e76, st76⟩ := getS2 X75 hx hZ hown (host := "") (Or.inl (hw _ (List.mem_of_getElem? (i := 8) rfl))) Via.refl e75 (EN.2.2.1.2.2.2.2.2.2.1.ext OL0.2) (g := (mkF m 14 #[.val (.int p1), .val (.int (12 : Int32)), .val (.ref (A 12)), .unset] [(.ref (A 12))])) rfl (hb hby at_14)
    obtain ⟨T77, X77, e77, st77⟩ := getS2 X76 hx hZ hown (host := "") (Or.inl (hw _ (List.mem_of_getElem? (i := 10) rfl))) Via.refl e76 (EN.2.2.2.1.2.2.2.2.1.ext OL0.2) (g := (mkF m 21 #[.val (.int p1), .val (.int (12 : Int32)), .val (.ref (A 12)), .unset] [(.ref (A 12))])) rfl (hb hby at_21)
    obtain ⟨cq79, kq79, q79a, q79b, q79c⟩ := isOf hZ e77 (EN.2.2.2.1.2.1.ext OL0.2)
    obtain ⟨_, _, ⟨T79, L79, k79, n79⟩, -, X79, ⟨Lc79, hQ79, l79, y79, z79⟩, st79⟩ := X77.virtualBack hx (y := own_m0) (z := own_m0) hown (mvT hZ (hw _ (List.mem_of_getElem? (i := 12) rfl))) (mvT hZ (hw _ (List.mem_of_getElem? (i := 13) rfl))) (notFace_of_selects (args := #[]) (mvT hZ (hw _ (List.mem_of_getElem? (i := 15) rfl)))) (mvT hZ (hw _ (List.mem_of_getElem? (i := 15) rfl))) (mvT hZ (hw _ (List.mem_of_getElem? (i := 14) rfl))) (by decide) (backOf (W := 0) (rm26 l Z a0 hw [] h0 n0 p1 A K EN OL0) hZ (hw _ (List.mem_of_getElem? (i := 16) rfl)) (hw _ (List.mem_of_getElem? (i := 6) rfl)) (by decide) (by decide)) q79a q79c (g := (mkF m 34 #[.val (.int p1), .val (.int (12 : Int32)), .val (.ref (A 12)), .val (.int (1 : Int32))] [(.ref (A 12))])) rfl (by rw [hml]; rfl) (Steps.refl _) (argsL := []) (rest := []) (lenOf own_pd1 rfl) rfl (by show 2 * 0 + _ ≤ _; exact Nat.le_of_eq rfl) (hb hby at_34) (fun _ _ => ⟨rfl, e77, (by decide : 0 + 0 ≤ _), (by decide : 0 + 0 ≤ _)⟩)
    dsimp only [Pt.U, Pt.locs, Pt.cells, Pt.slots] at X79 l79 y79 z79 st79 hQ79
    subst l79 y79 z79
    obtain ⟨rfl, N79q, e79⟩ := hQ79
    have N79 := Fr.app N75 N79q
    obtain ⟨fs, hr, hrun, hended, hW, hsame⟩ := X79.leave (v := some (.int (1 : Int32))) (fun h => by rw [Bd.returns] at h; cases h)
    refine ⟨_, _, pre1 _ ?_, hrun, hended, _, _, rfl, ?_, ⟨_, rfl⟩, hW, hsame.mono (by decide) (by decide)⟩
    · show Steps p.tables e below (s₁.setTop (mkF m 7 #[.val (.int p1), .unset, .unset, .unset] [(.int ((p1 &&& (2147483647 : Int32)) % (15 : Int32)))])) _
      rw [hk2]
      show Steps p.tables e below (s₁.setTop (mkF m 7 #[.val (.int p1), .unset, .unset, .unset] [(.int (12 : Int32))])) _
      refine XS.istoreN X0.here hx rfl (hb hby at_7) rfl (l' := #[.val (.int p1), .val (.int (12 : Int32)), .unset, .unset]) rfl ?_
      show Steps p.tables e below (s₁.setTop (mkF m 8 #[.val (.int p1), .val (.int (12 : Int32)), .unset, .unset] [])) _
      refine XS.iloadN X0.here hx rfl (hb hby at_8) rfl ?_
      show Steps p.tables e below (s₁.setTop (mkF m 9 #[.val (.int p1), .val (.int (12 : Int32)), .unset, .unset] [(.int (12 : Int32))])) _
      refine st75 _ ?_
      show Steps p.tables e below (T75.setTop (mkF m 12 #[.val (.int p1), .val (.int (12 : Int32)), .unset, .unset] [(.ref (A 12))])) _
      refine XS.astoreN X75.here hx rfl (hb hby at_12) rfl rfl (l' := #[.val (.int p1), .val (.int (12 : Int32)), .val (.ref (A 12)), .unset]) rfl ?_
      show Steps p.tables e below (T75.setTop (mkF m 13 #[.val (.int p1), .val (.int (12 : Int32)), .val (.ref (A 12)), .unset] [])) _
      refine XS.aloadN X75.here hx rfl (hb hby at_13) rfl rfl ?_
      show Steps p.tables e below (T75.setTop (mkF m 14 #[.val (.int p1), .val (.int (12 : Int32)), .val (.ref (A 12)), .unset] [(.ref (A 12))])) _
      refine st76 _ ?_
      show Steps p.tables e below (T76.setTop (mkF m 17 #[.val (.int p1), .val (.int (12 : Int32)), .val (.ref (A 12)), .unset] [(.ref (A 11)), (.ref (A 12))])) _
      refine Jvm.RoadKit.acmp (g := (mkF m 17 #[.val (.int p1), .val (.int (12 : Int32)), .val (.ref (A 12)), .unset] [(.ref (A 11)), (.ref (A 12))])) X76 hx rfl rfl rfl (pc0 := 17) (pc' := 20) (same := false) rfl (hb hby at_17) rfl (decide_eq_false fun q => (Fld.ne EN.2.2.2.2.2.2.2.2.1.2.2.2.2.2.2.1 EN.2.2.2.2.2.2.2.1.2.1 (fun h => by injection h with h; exact absurd h (by decide))) (Value.ref.inj q)) (by decide) (by decide) ?_
      show Steps p.tables e below (T76.setTop (mkF m 20 #[.val (.int p1), .val (.int (12 : Int32)), .val (.ref (A 12)), .unset] [])) _
      refine XS.aloadN X76.here hx rfl (hb hby at_20) rfl rfl ?_
      show Steps p.tables e below (T76.setTop (mkF m 21 #[.val (.int p1), .val (.int (12 : Int32)), .val (.ref (A 12)), .unset] [(.ref (A 12))])) _
      refine st77 _ ?_
      show Steps p.tables e below (T77.setTop (mkF m 24 #[.val (.int p1), .val (.int (12 : Int32)), .val (.ref (A 12)), .unset] [(.ref (A 14)), (.ref (A 12))])) _
      refine Jvm.RoadKit.acmp (g := (mkF m 24 #[.val (.int p1), .val (.int (12 : Int32)), .val (.ref (A 12)), .unset] [(.ref (A 14)), (.ref (A 12))])) X77 hx rfl rfl rfl (pc0 := 24) (pc' := 27) (same := false) rfl (hb hby at_24) rfl (decide_eq_false fun q => (Fld.ne EN.2.2.2.2.2.2.2.2.1.2.2.2.2.2.2.1 EN.2.2.2.2.2.2.2.1.2.2.1 (fun h => by injection h with h; exact absurd h (by decide))) (Value.ref.inj q)) (by decide) (by decide) ?_
      show Steps p.tables e below (T77.setTop (mkF m 27 #[.val (.int p1), .val (.int (12 : Int32)), .val (.ref (A 12)), .unset] [])) _
      refine XS.iconst X77.here hx rfl (hb hby at_27) ?_
      show Steps p.tables e below (T77.setTop (mkF m 28 #[.val (.int p1), .val (.int (12 : Int32)), .val (.ref (A 12)), .unset] [(.int (1 : Int32))])) _
      refine XS.goto X77.here hx rfl (pc0 := 28) (pc' := 32) rfl (hb hby at_28) (by decide) (by decide) ?_
      show Steps p.tables e below (T77.setTop (mkF m 32 #[.val (.int p1), .val (.int (12 : Int32)), .val (.ref (A 12)), .unset] [(.int (1 : Int32))])) _
      refine XS.istoreN X77.here hx rfl (hb hby at_32) rfl (l' := #[.val (.int p1), .val (.int (12 : Int32)), .val (.ref (A 12)), .val (.int (1 : Int32))]) rfl ?_
      show Steps p.tables e below (T77.setTop (mkF m 33 #[.val (.int p1), .val (.int (12 : Int32)), .val (.ref (A 12)), .val (.int (1 : Int32))] [])) _
      refine XS.aloadN X77.here hx rfl (hb hby at_33) rfl rfl ?_
      show Steps p.tables e below (T77.setTop (mkF m 34 #[.val (.int p1), .val (.int (12 : Int32)), .val (.ref (A 12)), .val (.int (1 : Int32))] [(.ref (A 12))])) _
      refine st79.trans ?_
      show Steps p.tables e below (T79.setTop (mkF m 37 #[.val (.int p1), .val (.int (12 : Int32)), .val (.ref (A 12)), .val (.int (1 : Int32))] [(.int (1 : Int32))])) _
      refine XS.iloadN X79.here hx rfl (hb hby at_37) rfl ?_
      show Steps p.tables e below (T79.setTop (mkF m 38 #[.val (.int p1), .val (.int (12 : Int32)), .val (.ref (A 12)), .val (.int (1 : Int32))] [(.int (1 : Int32)), (.int (1 : Int32))])) _
      refine XS.icmpNo X79.here hx rfl (hb hby at_38) rfl (teq (by decide : (1 : Int32) = (1 : Int32))).2 ?_
      show Steps p.tables e below (T79.setTop (mkF m 41 #[.val (.int p1), .val (.int (12 : Int32)), .val (.ref (A 12)), .val (.int (1 : Int32))] [])) _
      refine XS.iconst X79.here hx rfl (hb hby at_41) ?_
      show Steps p.tables e below (T79.setTop (mkF m 42 #[.val (.int p1), .val (.int (12 : Int32)), .val (.ref (A 12)), .val (.int (1 : Int32))] [(.int (1 : Int32))])) _
      refine XS.goto X79.here hx rfl (pc0 := 42) (pc' := 46) rfl (hb hby at_42) (by decide) (by decide) ?_
      show Steps p.tables e below (T79.setTop (mkF m 46 #[.val (.int p1), .val (.int (12 : Int32)), .val (.ref (A 12)), .val (.int (1 : Int32))] [(.int (1 : Int32))])) _
      exact retN X79 hx (t := .boolean) Bd.returns (by simp) (hb hby at_46) hr
    · show LQ n0 _ T79.heap _
      exact ⟨rfl, N79, trivial⟩
  | 13, _, hk2 =>
    obtain ⟨_, _, ⟨T81, L81, k81, n81⟩, -, X81, ⟨Lc81, hQ81, l81, y81, z81⟩, st81⟩ := Jvm.LawKit.callS X0 hx (y := own_m1) hown (mvT hZ (hw _ (List.mem_of_getElem? (i := 1) rfl))) (mvT hZ (hw _ (List.mem_of_getElem? (i := 2) rfl))) (mvT hZ (hw _ (List.mem_of_getElem? (i := 3) rfl))) (mvT hZ (hw _ (List.mem_of_getElem? (i := 4) rfl))) (by decide) (backOf (W := 0) (rm27 l Z a0 hw [] h0 n0 p1 A K EN OL0) hZ (hw _ (List.mem_of_getElem? (i := 4) rfl)) (hw _ (List.mem_of_getElem? (i := 3) rfl)) (by decide) (by decide)) (g := (mkF m 9 #[.val (.int p1), .val (.int (13 : Int32)), .unset, .unset] [(.int (13 : Int32))])) rfl (by rw [hml]; rfl) (argsL := [(.int (13 : Int32))]) (rest := []) (lenOf own_pd0 rfl) rfl (by show 2 * 0 + _ ≤ _; exact Nat.le_of_eq rfl) (hb hby at_9) (fun _ _ => ⟨rfl, e0, (by decide : 0 + 0 ≤ _), (by decide : 0 + 0 ≤ _)⟩)
    dsimp only [Pt.U, Pt.locs, Pt.cells, Pt.slots] at X81 l81 y81 z81 st81 hQ81
    subst l81 y81 z81
    obtain ⟨rfl, N81q, e81⟩ := hQ81
    have N81 := Fr.app N0 N81q
    obtain ⟨T82, X82, e82, st82⟩ := getS2 X81 hx hZ hown (host := "") (Or.inl (hw _ (List.mem_of_getElem? (i := 8) rfl))) Via.refl e81 (EN.2.2.1.2.2.2.2.2.2.1.ext OL0.2) (g := (mkF m 14 #[.val (.int p1), .val (.int (13 : Int32)), .val (.ref (A 13)), .unset] [(.ref (A 13))])) rfl (hb hby at_14)
    obtain ⟨T83, X83, e83, st83⟩ := getS2 X82 hx hZ hown (host := "") (Or.inl (hw _ (List.mem_of_getElem? (i := 10) rfl))) Via.refl e82 (EN.2.2.2.1.2.2.2.2.1.ext OL0.2) (g := (mkF m 21 #[.val (.int p1), .val (.int (13 : Int32)), .val (.ref (A 13)), .unset] [(.ref (A 13))])) rfl (hb hby at_21)
    obtain ⟨cq85, kq85, q85a, q85b, q85c⟩ := isOf hZ e83 (EN.2.2.2.1.2.2.2.1.ext OL0.2)
    obtain ⟨_, _, ⟨T85, L85, k85, n85⟩, -, X85, ⟨Lc85, hQ85, l85, y85, z85⟩, st85⟩ := X83.virtualBack hx (y := own_m0) (z := own_m0) hown (mvT hZ (hw _ (List.mem_of_getElem? (i := 12) rfl))) (mvT hZ (hw _ (List.mem_of_getElem? (i := 13) rfl))) (notFace_of_selects (args := #[]) (mvT hZ (hw _ (List.mem_of_getElem? (i := 15) rfl)))) (mvT hZ (hw _ (List.mem_of_getElem? (i := 15) rfl))) (mvT hZ (hw _ (List.mem_of_getElem? (i := 14) rfl))) (by decide) (backOf (W := 0) (rm28 l Z a0 hw [] h0 n0 p1 A K EN OL0) hZ (hw _ (List.mem_of_getElem? (i := 16) rfl)) (hw _ (List.mem_of_getElem? (i := 6) rfl)) (by decide) (by decide)) q85a q85c (g := (mkF m 34 #[.val (.int p1), .val (.int (13 : Int32)), .val (.ref (A 13)), .val (.int (1 : Int32))] [(.ref (A 13))])) rfl (by rw [hml]; rfl) (Steps.refl _) (argsL := []) (rest := []) (lenOf own_pd1 rfl) rfl (by show 2 * 0 + _ ≤ _; exact Nat.le_of_eq rfl) (hb hby at_34) (fun _ _ => ⟨rfl, e83, (by decide : 0 + 0 ≤ _), (by decide : 0 + 0 ≤ _)⟩)
    dsimp only [Pt.U, Pt.locs, Pt.cells, Pt.slots] at X85 l85 y85 z85 st85 hQ85
    subst l85 y85 z85
    obtain ⟨rfl, N85q, e85⟩ := hQ85
    have N85 := Fr.app N81 N85q
    obtain ⟨fs, hr, hrun, hended, hW, hsame⟩ := X85.leave (v := some (.int (1 : Int32))) (fun h => by rw [Bd.returns] at h; cases h)
    refine ⟨_, _, pre1 _ ?_, hrun, hended, _, _, rfl, ?_, ⟨_, rfl⟩, hW, hsame.mono (by decide) (by decide)⟩
    · show Steps p.tables e below (s₁.setTop (mkF m 7 #[.val (.int p1), .unset, .unset, .unset] [(.int ((p1 &&& (2147483647 : Int32)) % (15 : Int32)))])) _
      rw [hk2]
      show Steps p.tables e below (s₁.setTop (mkF m 7 #[.val (.int p1), .unset, .unset, .unset] [(.int (13 : Int32))])) _
      refine XS.istoreN X0.here hx rfl (hb hby at_7) rfl (l' := #[.val (.int p1), .val (.int (13 : Int32)), .unset, .unset]) rfl ?_
      show Steps p.tables e below (s₁.setTop (mkF m 8 #[.val (.int p1), .val (.int (13 : Int32)), .unset, .unset] [])) _
      refine XS.iloadN X0.here hx rfl (hb hby at_8) rfl ?_
      show Steps p.tables e below (s₁.setTop (mkF m 9 #[.val (.int p1), .val (.int (13 : Int32)), .unset, .unset] [(.int (13 : Int32))])) _
      refine st81 _ ?_
      show Steps p.tables e below (T81.setTop (mkF m 12 #[.val (.int p1), .val (.int (13 : Int32)), .unset, .unset] [(.ref (A 13))])) _
      refine XS.astoreN X81.here hx rfl (hb hby at_12) rfl rfl (l' := #[.val (.int p1), .val (.int (13 : Int32)), .val (.ref (A 13)), .unset]) rfl ?_
      show Steps p.tables e below (T81.setTop (mkF m 13 #[.val (.int p1), .val (.int (13 : Int32)), .val (.ref (A 13)), .unset] [])) _
      refine XS.aloadN X81.here hx rfl (hb hby at_13) rfl rfl ?_
      show Steps p.tables e below (T81.setTop (mkF m 14 #[.val (.int p1), .val (.int (13 : Int32)), .val (.ref (A 13)), .unset] [(.ref (A 13))])) _
      refine st82 _ ?_
      show Steps p.tables e below (T82.setTop (mkF m 17 #[.val (.int p1), .val (.int (13 : Int32)), .val (.ref (A 13)), .unset] [(.ref (A 11)), (.ref (A 13))])) _
      refine Jvm.RoadKit.acmp (g := (mkF m 17 #[.val (.int p1), .val (.int (13 : Int32)), .val (.ref (A 13)), .unset] [(.ref (A 11)), (.ref (A 13))])) X82 hx rfl rfl rfl (pc0 := 17) (pc' := 20) (same := false) rfl (hb hby at_17) rfl (decide_eq_false fun q => (Fld.ne EN.2.2.2.2.2.2.2.1.2.2.2.2.2.1 EN.2.2.2.2.2.2.2.1.2.1 (fun h => by injection h with h; exact absurd h (by decide))) (Value.ref.inj q)) (by decide) (by decide) ?_
      show Steps p.tables e below (T82.setTop (mkF m 20 #[.val (.int p1), .val (.int (13 : Int32)), .val (.ref (A 13)), .unset] [])) _
      refine XS.aloadN X82.here hx rfl (hb hby at_20) rfl rfl ?_
      show Steps p.tables e below (T82.setTop (mkF m 21 #[.val (.int p1), .val (.int (13 : Int32)), .val (.ref (A 13)), .unset] [(.ref (A 13))])) _
      refine st83 _ ?_
      show Steps p.tables e below (T83.setTop (mkF m 24 #[.val (.int p1), .val (.int (13 : Int32)), .val (.ref (A 13)), .unset] [(.ref (A 14)), (.ref (A 13))])) _
      refine Jvm.RoadKit.acmp (g := (mkF m 24 #[.val (.int p1), .val (.int (13 : Int32)), .val (.ref (A 13)), .unset] [(.ref (A 14)), (.ref (A 13))])) X83 hx rfl rfl rfl (pc0 := 24) (pc' := 27) (same := false) rfl (hb hby at_24) rfl (decide_eq_false fun q => (Fld.ne EN.2.2.2.2.2.2.2.1.2.2.2.2.2.1 EN.2.2.2.2.2.2.2.1.2.2.1 (fun h => by injection h with h; exact absurd h (by decide))) (Value.ref.inj q)) (by decide) (by decide) ?_
      show Steps p.tables e below (T83.setTop (mkF m 27 #[.val (.int p1), .val (.int (13 : Int32)), .val (.ref (A 13)), .unset] [])) _
      refine XS.iconst X83.here hx rfl (hb hby at_27) ?_
      show Steps p.tables e below (T83.setTop (mkF m 28 #[.val (.int p1), .val (.int (13 : Int32)), .val (.ref (A 13)), .unset] [(.int (1 : Int32))])) _
      refine XS.goto X83.here hx rfl (pc0 := 28) (pc' := 32) rfl (hb hby at_28) (by decide) (by decide) ?_
      show Steps p.tables e below (T83.setTop (mkF m 32 #[.val (.int p1), .val (.int (13 : Int32)), .val (.ref (A 13)), .unset] [(.int (1 : Int32))])) _
      refine XS.istoreN X83.here hx rfl (hb hby at_32) rfl (l' := #[.val (.int p1), .val (.int (13 : Int32)), .val (.ref (A 13)), .val (.int (1 : Int32))]) rfl ?_
      show Steps p.tables e below (T83.setTop (mkF m 33 #[.val (.int p1), .val (.int (13 : Int32)), .val (.ref (A 13)), .val (.int (1 : Int32))] [])) _
      refine XS.aloadN X83.here hx rfl (hb hby at_33) rfl rfl ?_
      show Steps p.tables e below (T83.setTop (mkF m 34 #[.val (.int p1), .val (.int (13 : Int32)), .val (.ref (A 13)), .val (.int (1 : Int32))] [(.ref (A 13))])) _
      refine st85.trans ?_
      show Steps p.tables e below (T85.setTop (mkF m 37 #[.val (.int p1), .val (.int (13 : Int32)), .val (.ref (A 13)), .val (.int (1 : Int32))] [(.int (1 : Int32))])) _
      refine XS.iloadN X85.here hx rfl (hb hby at_37) rfl ?_
      show Steps p.tables e below (T85.setTop (mkF m 38 #[.val (.int p1), .val (.int (13 : Int32)), .val (.ref (A 13)), .val (.int (1 : Int32))] [(.int (1 : Int32)), (.int (1 : Int32))])) _
      refine XS.icmpNo X85.here hx rfl (hb hby at_38) rfl (teq (by decide : (1 : Int32) = (1 : Int32))).2 ?_
      show Steps p.tables e below (T85.setTop (mkF m 41 #[.val (.int p1), .val (.int (13 : Int32)), .val (.ref (A 13)), .val (.int (1 : Int32))] [])) _
      refine XS.iconst X85.here hx rfl (hb hby at_41) ?_
      show Steps p.tables e below (T85.setTop (mkF m 42 #[.val (.int p1), .val (.int (13 : Int32)), .val (.ref (A 13)), .val (.int (1 : Int32))] [(.int (1 : Int32))])) _
      refine XS.goto X85.here hx rfl (pc0 := 42) (pc' := 46) rfl (hb hby at_42) (by decide) (by decide) ?_
      show Steps p.tables e below (T85.setTop (mkF m 46 #[.val (.int p1), .val (.int (13 : Int32)), .val (.ref (A 13)), .val (.int (1 : Int32))] [(.int (1 : Int32))])) _
      exact retN X85 hx (t := .boolean) Bd.returns (by simp) (hb hby at_46) hr
    · show LQ n0 _ T85.heap _
      exact ⟨rfl, N85, trivial⟩
  | 14, _, hk2 =>
    obtain ⟨_, _, ⟨T87, L87, k87, n87⟩, -, X87, ⟨Lc87, hQ87, l87, y87, z87⟩, st87⟩ := Jvm.LawKit.callS X0 hx (y := own_m1) hown (mvT hZ (hw _ (List.mem_of_getElem? (i := 1) rfl))) (mvT hZ (hw _ (List.mem_of_getElem? (i := 2) rfl))) (mvT hZ (hw _ (List.mem_of_getElem? (i := 3) rfl))) (mvT hZ (hw _ (List.mem_of_getElem? (i := 4) rfl))) (by decide) (backOf (W := 0) (rm29 l Z a0 hw [] h0 n0 p1 A K EN OL0) hZ (hw _ (List.mem_of_getElem? (i := 4) rfl)) (hw _ (List.mem_of_getElem? (i := 3) rfl)) (by decide) (by decide)) (g := (mkF m 9 #[.val (.int p1), .val (.int (14 : Int32)), .unset, .unset] [(.int (14 : Int32))])) rfl (by rw [hml]; rfl) (argsL := [(.int (14 : Int32))]) (rest := []) (lenOf own_pd0 rfl) rfl (by show 2 * 0 + _ ≤ _; exact Nat.le_of_eq rfl) (hb hby at_9) (fun _ _ => ⟨rfl, e0, (by decide : 0 + 0 ≤ _), (by decide : 0 + 0 ≤ _)⟩)
    dsimp only [Pt.U, Pt.locs, Pt.cells, Pt.slots] at X87 l87 y87 z87 st87 hQ87
    subst l87 y87 z87
    obtain ⟨rfl, N87q, e87⟩ := hQ87
    have N87 := Fr.app N0 N87q
    obtain ⟨T88, X88, e88, st88⟩ := getS2 X87 hx hZ hown (host := "") (Or.inl (hw _ (List.mem_of_getElem? (i := 8) rfl))) Via.refl e87 (EN.2.2.1.2.2.2.2.2.2.1.ext OL0.2) (g := (mkF m 14 #[.val (.int p1), .val (.int (14 : Int32)), .val (.ref (A 14)), .unset] [(.ref (A 14))])) rfl (hb hby at_14)
    obtain ⟨T89, X89, e89, st89⟩ := getS2 X88 hx hZ hown (host := "") (Or.inl (hw _ (List.mem_of_getElem? (i := 10) rfl))) Via.refl e88 (EN.2.2.2.1.2.2.2.2.1.ext OL0.2) (g := (mkF m 21 #[.val (.int p1), .val (.int (14 : Int32)), .val (.ref (A 14)), .unset] [(.ref (A 14))])) rfl (hb hby at_21)
    obtain ⟨cq91, kq91, q91a, q91b, q91c⟩ := isOf hZ e89 (EN.2.2.2.1.2.2.2.2.2.1.ext OL0.2)
    obtain ⟨_, _, ⟨T91, L91, k91, n91⟩, -, X91, ⟨Lc91, hQ91, l91, y91, z91⟩, st91⟩ := X89.virtualBack hx (y := own_m0) (z := own_m0) hown (mvT hZ (hw _ (List.mem_of_getElem? (i := 12) rfl))) (mvT hZ (hw _ (List.mem_of_getElem? (i := 13) rfl))) (notFace_of_selects (args := #[]) (mvT hZ (hw _ (List.mem_of_getElem? (i := 15) rfl)))) (mvT hZ (hw _ (List.mem_of_getElem? (i := 15) rfl))) (mvT hZ (hw _ (List.mem_of_getElem? (i := 14) rfl))) (by decide) (backOf (W := 0) (rm30 l Z a0 hw [] h0 n0 p1 A K EN OL0) hZ (hw _ (List.mem_of_getElem? (i := 16) rfl)) (hw _ (List.mem_of_getElem? (i := 6) rfl)) (by decide) (by decide)) q91a q91c (g := (mkF m 34 #[.val (.int p1), .val (.int (14 : Int32)), .val (.ref (A 14)), .val (.int (0 : Int32))] [(.ref (A 14))])) rfl (by rw [hml]; rfl) (Steps.refl _) (argsL := []) (rest := []) (lenOf own_pd1 rfl) rfl (by show 2 * 0 + _ ≤ _; exact Nat.le_of_eq rfl) (hb hby at_34) (fun _ _ => ⟨rfl, e89, (by decide : 0 + 0 ≤ _), (by decide : 0 + 0 ≤ _)⟩)
    dsimp only [Pt.U, Pt.locs, Pt.cells, Pt.slots] at X91 l91 y91 z91 st91 hQ91
    subst l91 y91 z91
    obtain ⟨rfl, N91q, e91⟩ := hQ91
    have N91 := Fr.app N87 N91q
    obtain ⟨fs, hr, hrun, hended, hW, hsame⟩ := X91.leave (v := some (.int (1 : Int32))) (fun h => by rw [Bd.returns] at h; cases h)
    refine ⟨_, _, pre1 _ ?_, hrun, hended, _, _, rfl, ?_, ⟨_, rfl⟩, hW, hsame.mono (by decide) (by decide)⟩
    · show Steps p.tables e below (s₁.setTop (mkF m 7 #[.val (.int p1), .unset, .unset, .unset] [(.int ((p1 &&& (2147483647 : Int32)) % (15 : Int32)))])) _
      rw [hk2]
      show Steps p.tables e below (s₁.setTop (mkF m 7 #[.val (.int p1), .unset, .unset, .unset] [(.int (14 : Int32))])) _
      refine XS.istoreN X0.here hx rfl (hb hby at_7) rfl (l' := #[.val (.int p1), .val (.int (14 : Int32)), .unset, .unset]) rfl ?_
      show Steps p.tables e below (s₁.setTop (mkF m 8 #[.val (.int p1), .val (.int (14 : Int32)), .unset, .unset] [])) _
      refine XS.iloadN X0.here hx rfl (hb hby at_8) rfl ?_
      show Steps p.tables e below (s₁.setTop (mkF m 9 #[.val (.int p1), .val (.int (14 : Int32)), .unset, .unset] [(.int (14 : Int32))])) _
      refine st87 _ ?_
      show Steps p.tables e below (T87.setTop (mkF m 12 #[.val (.int p1), .val (.int (14 : Int32)), .unset, .unset] [(.ref (A 14))])) _
      refine XS.astoreN X87.here hx rfl (hb hby at_12) rfl rfl (l' := #[.val (.int p1), .val (.int (14 : Int32)), .val (.ref (A 14)), .unset]) rfl ?_
      show Steps p.tables e below (T87.setTop (mkF m 13 #[.val (.int p1), .val (.int (14 : Int32)), .val (.ref (A 14)), .unset] [])) _
      refine XS.aloadN X87.here hx rfl (hb hby at_13) rfl rfl ?_
      show Steps p.tables e below (T87.setTop (mkF m 14 #[.val (.int p1), .val (.int (14 : Int32)), .val (.ref (A 14)), .unset] [(.ref (A 14))])) _
      refine st88 _ ?_
      show Steps p.tables e below (T88.setTop (mkF m 17 #[.val (.int p1), .val (.int (14 : Int32)), .val (.ref (A 14)), .unset] [(.ref (A 11)), (.ref (A 14))])) _
      refine Jvm.RoadKit.acmp (g := (mkF m 17 #[.val (.int p1), .val (.int (14 : Int32)), .val (.ref (A 14)), .unset] [(.ref (A 11)), (.ref (A 14))])) X88 hx rfl rfl rfl (pc0 := 17) (pc' := 20) (same := false) rfl (hb hby at_17) rfl (decide_eq_false fun q => (Fld.ne EN.2.2.2.2.2.2.2.1.2.2.1 EN.2.2.2.2.2.2.2.1.2.1 (fun h => by injection h with h; exact absurd h (by decide))) (Value.ref.inj q)) (by decide) (by decide) ?_
      show Steps p.tables e below (T88.setTop (mkF m 20 #[.val (.int p1), .val (.int (14 : Int32)), .val (.ref (A 14)), .unset] [])) _
      refine XS.aloadN X88.here hx rfl (hb hby at_20) rfl rfl ?_
      show Steps p.tables e below (T88.setTop (mkF m 21 #[.val (.int p1), .val (.int (14 : Int32)), .val (.ref (A 14)), .unset] [(.ref (A 14))])) _
      refine st89 _ ?_
      show Steps p.tables e below (T89.setTop (mkF m 24 #[.val (.int p1), .val (.int (14 : Int32)), .val (.ref (A 14)), .unset] [(.ref (A 14)), (.ref (A 14))])) _
      refine Jvm.RoadKit.acmp (g := (mkF m 24 #[.val (.int p1), .val (.int (14 : Int32)), .val (.ref (A 14)), .unset] [(.ref (A 14)), (.ref (A 14))])) X89 hx rfl rfl rfl (pc0 := 24) (pc' := 31) (same := true) rfl (hb hby at_24) rfl (decide_eq_true rfl) (by decide) (by decide) ?_
      show Steps p.tables e below (T89.setTop (mkF m 31 #[.val (.int p1), .val (.int (14 : Int32)), .val (.ref (A 14)), .unset] [])) _
      refine XS.iconst X89.here hx rfl (hb hby at_31) ?_
      show Steps p.tables e below (T89.setTop (mkF m 32 #[.val (.int p1), .val (.int (14 : Int32)), .val (.ref (A 14)), .unset] [(.int (0 : Int32))])) _
      refine XS.istoreN X89.here hx rfl (hb hby at_32) rfl (l' := #[.val (.int p1), .val (.int (14 : Int32)), .val (.ref (A 14)), .val (.int (0 : Int32))]) rfl ?_
      show Steps p.tables e below (T89.setTop (mkF m 33 #[.val (.int p1), .val (.int (14 : Int32)), .val (.ref (A 14)), .val (.int (0 : Int32))] [])) _
      refine XS.aloadN X89.here hx rfl (hb hby at_33) rfl rfl ?_
      show Steps p.tables e below (T89.setTop (mkF m 34 #[.val (.int p1), .val (.int (14 : Int32)), .val (.ref (A 14)), .val (.int (0 : Int32))] [(.ref (A 14))])) _
      refine st91.trans ?_
      show Steps p.tables e below (T91.setTop (mkF m 37 #[.val (.int p1), .val (.int (14 : Int32)), .val (.ref (A 14)), .val (.int (0 : Int32))] [(.int (0 : Int32))])) _
      refine XS.iloadN X91.here hx rfl (hb hby at_37) rfl ?_
      show Steps p.tables e below (T91.setTop (mkF m 38 #[.val (.int p1), .val (.int (14 : Int32)), .val (.ref (A 14)), .val (.int (0 : Int32))] [(.int (0 : Int32)), (.int (0 : Int32))])) _
      refine XS.icmpNo X91.here hx rfl (hb hby at_38) rfl (teq (by decide : (0 : Int32) = (0 : Int32))).2 ?_
      show Steps p.tables e below (T91.setTop (mkF m 41 #[.val (.int p1), .val (.int (14 : Int32)), .val (.ref (A 14)), .val (.int (0 : Int32))] [])) _
      refine XS.iconst X91.here hx rfl (hb hby at_41) ?_
      show Steps p.tables e below (T91.setTop (mkF m 42 #[.val (.int p1), .val (.int (14 : Int32)), .val (.ref (A 14)), .val (.int (0 : Int32))] [(.int (1 : Int32))])) _
      refine XS.goto X91.here hx rfl (pc0 := 42) (pc' := 46) rfl (hb hby at_42) (by decide) (by decide) ?_
      show Steps p.tables e below (T91.setTop (mkF m 46 #[.val (.int p1), .val (.int (14 : Int32)), .val (.ref (A 14)), .val (.int (0 : Int32))] [(.int (1 : Int32))])) _
      exact retN X91 hx (t := .boolean) Bd.returns (by simp) (hb hby at_46) hr
    · show LQ n0 _ T91.heap _
      exact ⟨rfl, N91, trivial⟩
  | kk + 15, h, _ => exact absurd h (by omega)
set_option maxRecDepth 65536 in
set_option maxHeartbeats 40000000 in
theorem comes_1 {Post : Tables → Env → Array Value → State → Outcome → State → Prop} (hpost : ∀ tb e args s v u, (limb_1_1.after args s (.returned v) u = true ∧ limb_1_2.after args s (.returned v) u = true ∧ True) → FrameEnd s (.returned v) u (Jvm.fieldLocs frame_1_writes args s ++ Jvm.arrayLocs frame_1_arrays args s ++ Jvm.staticLocs frame_1_statics s) 0 0 → Post tb e args s (.returned v) u) :
    ArmFor flags0 classFile x code maxLocals ret World_1 tables_1 room_1 Calls_1 rest_1 Pre_1 Post := by
  intro l hfl _ _ p e ha hc hk s m args below hf hA hF happ hP
  obtain ⟨hcalls, hrest, hpre⟩ := hP
  obtain ⟨-, -, -, hnamed, -, -, -, hat⟩ := (Spec.applies_iff hf).mp happ
  obtain ⟨hg, hn⟩ := and_e (Cond.before_iff.mp (show (Jvm.Cond.and given_1 narrow_1).before args s = true from hpre))
  obtain ⟨gA0, gB0⟩ := and_e hg
  obtain ⟨w0, rfl⟩ : ∃ w0 : Value, args = #[w0] := by
    have hs : args.size = 1 := by simpa [Cond.value, given_1] using gA0
    obtain ⟨L⟩ := args
    match L, hs with
    | [w0], _ => exact ⟨w0, rfl⟩
  have hw := fun d (hd : d ∈ tables_1) => atoms_spec (ws := Jvm.Cond.code x code maxLocals ret :: tables_1) hat d (List.mem_cons_of_mem _ hd)
  have hfit : Fit s := fun {y c} hc i hi => by
    obtain ⟨ha, rfl⟩ := Array.getElem?_eq_some_iff.mp hc
    have q := List.all_eq_true.mp ((Array.all_eq_true_iff_forall_mem.mp hF) _ (Array.getElem_mem ha)) i (List.mem_range.mpr hi)
    simpa [Array.getElem?_eq_getElem hi] using q
  obtain ⟨i0, ei0⟩ := is_v gB0
  obtain rfl : w0 = (.int i0) := Option.some.inj ei0
  obtain ⟨hx0, hr0⟩ := and_e hn
  obtain ⟨hx1, hr1⟩ := and_e hr0
  obtain ⟨hx2, hr2⟩ := and_e hr1
  obtain ⟨hx3, hr3⟩ := and_e hr2
  obtain ⟨hx4, hr4⟩ := and_e hr3
  obtain ⟨hx5, hr5⟩ := and_e hr4
  obtain ⟨hx6, hr6⟩ := and_e hr5
  obtain ⟨hx7, hr7⟩ := and_e hr6
  obtain ⟨hx8, hr8⟩ := and_e hr7
  obtain ⟨hx9, hr9⟩ := and_e hr8
  obtain ⟨hx10, hr10⟩ := and_e hr9
  obtain ⟨hx11, hr11⟩ := and_e hr10
  obtain ⟨hx12, hr12⟩ := and_e hr11
  obtain ⟨hx13, hr13⟩ := and_e hr12
  obtain ⟨hx14, hr14⟩ := and_e hr13
  obtain ⟨hx15, hr15⟩ := and_e hr14
  obtain ⟨hx16, hr16⟩ := and_e hr15
  obtain ⟨hx17, hr17⟩ := and_e hr16
  obtain ⟨hx18, hr18⟩ := and_e hr17
  obtain ⟨hx19, hr19⟩ := and_e hr18
  obtain ⟨hx20, hr20⟩ := and_e hr19
  obtain ⟨hx21, hr21⟩ := and_e hr20
  obtain ⟨hx22, hr22⟩ := and_e hr21
  obtain ⟨hx23, hr23⟩ := and_e hr22
  obtain ⟨hx24, hr24⟩ := and_e hr23
  obtain ⟨hx25, hr25⟩ := and_e hr24
  obtain ⟨hx26, hr26⟩ := and_e hr25
  obtain ⟨hx27, hr27⟩ := and_e hr26
  obtain ⟨hx28, hr28⟩ := and_e hr27
  obtain ⟨hx29, hr29⟩ := and_e hr28
  obtain ⟨hx30, hr30⟩ := and_e hr29
  obtain ⟨hx31, hr31⟩ := and_e hr30
  obtain ⟨hx32, hr32⟩ := and_e hr31
  obtain ⟨hx33, hr33⟩ := and_e hr32
  obtain ⟨hx34, hr34⟩ := and_e hr33
  obtain ⟨hx35, hr35⟩ := and_e hr34
  obtain ⟨hx36, hr36⟩ := and_e hr35
  obtain ⟨hx37, hr37⟩ := and_e hr36
  obtain ⟨hx38, hr38⟩ := and_e hr37
  obtain ⟨hx39, hr39⟩ := and_e hr38
  obtain ⟨hx40, hr40⟩ := and_e hr39
  obtain ⟨hx41, hr41⟩ := and_e hr40
  obtain ⟨hx42, hr42⟩ := and_e hr41
  obtain ⟨hx43, hr43⟩ := and_e hr42
  obtain ⟨aS0, eS0⟩ := exa_v hx0
  obtain ⟨aS1, eS1⟩ := exa_v hx33
  obtain ⟨aS2, eS2⟩ := exa_v hx23
  obtain ⟨aS3, eS3⟩ := exa_v hx7
  obtain ⟨aS4, eS4⟩ := exa_v hx39
  obtain ⟨aS5, eS5⟩ := exa_v hx10
  obtain ⟨aS6, eS6⟩ := exa_v hx16
  obtain ⟨aS7, eS7⟩ := exa_v hx20
  obtain ⟨aS8, eS8⟩ := exa_v hx30
  obtain ⟨aS9, eS9⟩ := exa_v hx42
  obtain ⟨aS10, eS10⟩ := exa_v hx27
  obtain ⟨aS11, eS11⟩ := exa_v hx1
  obtain ⟨aS12, eS12⟩ := exa_v hx36
  obtain ⟨aS13, eS13⟩ := exa_v hx13
  obtain ⟨aS14, eS14⟩ := exa_v hx4
  obtain ⟨aS15, eS15⟩ := exa_v hx6
  obtain ⟨aS16, eS16⟩ := exa_v hx9
  obtain ⟨aS17, eS17⟩ := exa_v hx12
  obtain ⟨aS18, eS18⟩ := exa_v hx15
  obtain ⟨aS19, eS19⟩ := exa_v hx18
  obtain ⟨aS20, eS20⟩ := exa_v hx22
  obtain ⟨aS21, eS21⟩ := exa_v hx25
  obtain ⟨aS22, eS22⟩ := exa_v hx29
  obtain ⟨aS23, eS23⟩ := exa_v hx32
  obtain ⟨aS24, eS24⟩ := exa_v hx35
  obtain ⟨aS25, eS25⟩ := exa_v hx38
  obtain ⟨aS26, eS26⟩ := exa_v hx41
  obtain ⟨aS27, eS27⟩ := exa_v hr43
  have EN : own_St s (fun n => [aS0, aS1, aS2, aS3, aS4, aS5, aS6, aS7, aS8, aS9, aS10, aS11, aS12, aS13, aS14, aS15, aS16, aS17, aS18, aS19, aS20, aS21, aS22, aS23, aS24, aS25, aS26, aS27].getD n 0) (fun n => [].getD n 0) := ⟨⟨Sta.start eS0 (Or.inr ⟨(hw _ (List.mem_of_getElem? (i := 6) rfl)), (hw _ (List.mem_of_getElem? (i := 7) rfl))⟩), Exa.start eS0 hx0, Sta.start eS1 (Or.inr ⟨(hw _ (List.mem_of_getElem? (i := 6) rfl)), (hw _ (List.mem_of_getElem? (i := 36) rfl))⟩), Exa.start eS1 hx33, Sta.start eS2 (Or.inr ⟨(hw _ (List.mem_of_getElem? (i := 6) rfl)), (hw _ (List.mem_of_getElem? (i := 30) rfl))⟩), Exa.start eS2 hx23, Sta.start eS3 (Or.inr ⟨(hw _ (List.mem_of_getElem? (i := 6) rfl)), (hw _ (List.mem_of_getElem? (i := 20) rfl))⟩), Exa.start eS3 hx7, trivial⟩, ⟨Sta.start eS4 (Or.inr ⟨(hw _ (List.mem_of_getElem? (i := 6) rfl)), (hw _ (List.mem_of_getElem? (i := 40) rfl))⟩), Exa.start eS4 hx39, Sta.start eS5 (Or.inr ⟨(hw _ (List.mem_of_getElem? (i := 6) rfl)), (hw _ (List.mem_of_getElem? (i := 22) rfl))⟩), Exa.start eS5 hx10, Sta.start eS6 (Or.inr ⟨(hw _ (List.mem_of_getElem? (i := 6) rfl)), (hw _ (List.mem_of_getElem? (i := 26) rfl))⟩), Exa.start eS6 hx16, Sta.start eS7 (Or.inr ⟨(hw _ (List.mem_of_getElem? (i := 6) rfl)), (hw _ (List.mem_of_getElem? (i := 28) rfl))⟩), Exa.start eS7 hx20, trivial⟩, ⟨Sta.start eS8 (Or.inr ⟨(hw _ (List.mem_of_getElem? (i := 6) rfl)), (hw _ (List.mem_of_getElem? (i := 34) rfl))⟩), Exa.start eS8 hx30, Sta.start eS9 (Or.inr ⟨(hw _ (List.mem_of_getElem? (i := 6) rfl)), (hw _ (List.mem_of_getElem? (i := 42) rfl))⟩), Exa.start eS9 hx42, Sta.start eS10 (Or.inr ⟨(hw _ (List.mem_of_getElem? (i := 6) rfl)), (hw _ (List.mem_of_getElem? (i := 32) rfl))⟩), Exa.start eS10 hx27, Sta.start eS11 (Or.inr ⟨(hw _ (List.mem_of_getElem? (i := 6) rfl)), (hw _ (List.mem_of_getElem? (i := 9) rfl))⟩), Exa.start eS11 hx1, trivial⟩, ⟨Sta.start eS12 (Or.inr ⟨(hw _ (List.mem_of_getElem? (i := 6) rfl)), (hw _ (List.mem_of_getElem? (i := 38) rfl))⟩), Exa.start eS12 hx36, Sta.start eS13 (Or.inr ⟨(hw _ (List.mem_of_getElem? (i := 6) rfl)), (hw _ (List.mem_of_getElem? (i := 24) rfl))⟩), Exa.start eS13 hx13, Sta.start eS14 (Or.inr ⟨(hw _ (List.mem_of_getElem? (i := 6) rfl)), (hw _ (List.mem_of_getElem? (i := 11) rfl))⟩), Exa.start eS14 hx4, own_fld eS0 eS15, Exa.start eS15 hx6, trivial⟩, ⟨own_fld eS3 eS16, Exa.start eS16 hx9, own_fld eS5 eS17, Exa.start eS17 hx12, own_fld eS13 eS18, Exa.start eS18 hx15, own_fld eS6 eS19, Exa.start eS19 hx18, trivial⟩, ⟨own_fld eS7 eS20, Exa.start eS20 hx22, own_fld eS2 eS21, Exa.start eS21 hx25, own_fld eS10 eS22, Exa.start eS22 hx29, own_fld eS8 eS23, Exa.start eS23 hx32, trivial⟩, ⟨own_fld eS1 eS24, Exa.start eS24 hx35, own_fld eS12 eS25, Exa.start eS25 hx38, own_fld eS4 eS26, Exa.start eS26 hx41, own_fld eS9 eS27, Exa.start eS27 hr43, trivial⟩, ⟨own_fld eS0 (own_eqv (Term.int_eval _) hx2), own_fld eS11 (own_eqv (Term.int_eval _) hx3), own_fld eS14 (own_eqv (Term.int_eval _) hx5), own_fld eS3 (own_eqv (Term.int_eval _) hx8), own_fld eS5 (own_eqv (Term.int_eval _) hx11), own_fld eS13 (own_eqv (Term.int_eval _) hx14), own_fld eS6 (own_eqv (Term.int_eval _) hx17), own_fld eS14 (null_v hx19), trivial⟩, ⟨own_fld eS7 (own_eqv (Term.int_eval _) hx21), own_fld eS2 (own_eqv (Term.int_eval _) hx24), own_fld eS11 (null_v hx26), own_fld eS10 (own_eqv (Term.int_eval _) hx28), own_fld eS8 (own_eqv (Term.int_eval _) hx31), own_fld eS1 (own_eqv (Term.int_eval _) hx34), own_fld eS12 (own_eqv (Term.int_eval _) hx37), own_fld eS4 (own_eqv (Term.int_eval _) hx40), trivial⟩, ⟨own_fld eS9 (own_eqv (Term.int_eval _) hx43), trivial⟩, trivial⟩
  obtain ⟨n, o, h1, h2, h3, _, L, rfl, hQ, hq⟩ := rm0 l s _ hw tables_1 s.heap s.heap.size i0 (fun n => [aS0, aS1, aS2, aS3, aS4, aS5, aS6, aS7, aS8, aS9, aS10, aS11, aS12, aS13, aS14, aS15, aS16, aS17, aS18, aS19, aS20, aS21, aS22, aS23, aS24, aS25, aS26, aS27].getD n 0) (fun n => [].getD n 0) EN (Old.start s) p e ha hc hk s m _ below hf ((Spec.applies_iff_loose hf).mp happ).1 ⟨rfl, State.Warmed39.refl s, rfl⟩ trivial
  obtain ⟨rfl, N, -⟩ := hQ
  refine ⟨n, _, h1, h2, h3, hpost _ _ _ _ _ _ ⟨Cond.after_iff.mpr rfl, Cond.after_iff.mpr (eq_i res_at (Term.int_eval (1)) rfl), trivial⟩ ⟨hq.1, hq.2.1, (hq.2.2.sift fun y hy => Or.inr (N y hy)).mono (by decide) (by decide)⟩⟩
theorem main_1_1 : Claimed_1_1 := comes_1 fun _ _ _ _ _ _ h hF => ⟨h.1, hF⟩
theorem main_1_2 : Claimed_1_2 := comes_1 fun _ _ _ _ _ _ h hF => ⟨h.2.1, hF⟩
end Jvm.Pilot.@@N@@
namespace Jvm.Pilot.@@N@@
open Jvm Jvm.ClassFile Sem Op Lib Jvm.Free Jvm.Stand Jvm.Pilot.@@N@@.Jvm.D
/-! MADE BY PROGRAM (witnessworld.py) out of the Statement's table words and the real class files: 14 classes; the members and pool entries that the words name. The judged class is class 1, her method 2. -/
namespace start1
open Jvm.ClassFile
def u (s : String) : CpInfo := .utf8 (stringToUtf16 s)
/-- a pool by its gaps: so many unusable entries, then the entry; so many at the end -/
def gap : Nat → List CpInfo → List CpInfo
  | 0, r => r
  | n + 1, r => .unusable :: gap n r
def poolList (es : List (Nat × CpInfo)) (last : Nat) : List CpInfo := es.foldr (fun e r => gap e.1 (e.2 :: r)) (gap last [])
def pool (es : List (Nat × CpInfo)) (last : Nat) : Array CpInfo := ⟨poolList es last⟩
def fileOf (pool : Array CpInfo) (this : Nat) (attrs : Array Attribute := #[]) (ms : Array MethodInfo := #[]) (fl : Nat := 33) (sup : Nat := 0) (ifs : Array Nat := #[]) (fds : Array FieldInfo := #[]) : ClassFile where
  minorVersion := 0
  majorVersion := 65
  constantPool := pool
  accessFlags := fl
  thisClass := this
  superClass := sup
  interfaces := ifs
  fields := fds
  methods := ms
  attributes := attrs
def plain (name : String) (sup : Option ClassId) : Class where
  name := name
  kind := .ordinary
  loader := none
  accessFlags := 33
  super := sup
  interfaces := #[]
  cf := none
  fields := #[]
  methods := #[]
  instanceTypes := #[]
  staticTypes := #[]
  resolved := #[]
  callSites := []
  init := .initialized
  statics := none
  mirror := none

def pool0 : Array CpInfo := pool [(5, u "<init>"), (0, u "()V"), (1, .class_ 10), (1, u "java/lang/Object")] 113

def k0m0 : Method := { name := "<init>", desc := "()V", sig := { parameters := [], returnType := none }, accessFlags := 1, code := none }
/-- java/lang/Object -/
def k0 : Class := { plain "java/lang/Object" none with
  accessFlags := 33
  interfaces := #[]
  cf := some (fileOf pool0 8 #[] #[{ accessFlags := 1, nameIndex := 5, descriptorIndex := 6, attributes := #[] }] 33 0 #[] #[])
  fields := #[]
  methods := #[k0m0]
  instanceTypes := #[]
  staticTypes := #[]
  resolved := Array.replicate 124 none
  statics := none }

def pool1 : Array CpInfo := pool [(2, .class_ 4), (1, u "java/lang/Object"), (0, u "<init>"), (0, u "()V"), (0, .fieldref 8 9), (0, .class_ 10), (0, .nameAndType 11 12), (0, u "com/example/measurewright/measurewright/Relation"), (0, u "SBS"), (0, u "Lcom/example/measurewright/measurewright/Relation;"), (0, .fieldref 8 14), (0, .nameAndType 15 12), (0, u "SAS"), (0, .fieldref 8 17), (0, .nameAndType 18 12), (0, u "SBE"), (0, .fieldref 8 20), (0, .nameAndType 21 12), (0, u "SAE"), (0, .fieldref 8 23), (0, .nameAndType 24 12), (0, u "EBS"), (0, .fieldref 8 26), (0, .nameAndType 27 12), (0, u "EAS"), (0, .fieldref 8 29), (0, .nameAndType 30 12), (0, u "EBE"), (0, .fieldref 8 32), (0, .nameAndType 33 12), (0, u "EAE"), (0, .fieldref 8 35), (0, .nameAndType 36 12), (0, u "SDU"), (0, .fieldref 8 38), (0, .nameAndType 39 12), (0, u "EDU"), (0, .fieldref 8 41), (0, .nameAndType 42 12), (0, u "DURING"), (0, .fieldref 8 44), (0, .nameAndType 45 12), (0, u "OVERLAP"), (0, .fieldref 8 47), (0, .nameAndType 48 12), (0, u "SCW"), (0, .fieldref 8 50), (0, .nameAndType 51 12), (0, u "ECW"), (0, .fieldref 8 53), (0, .nameAndType 54 12), (0, u "CONCURRENT"), (0, .integer 2147483647), (0, .methodref 57 58), (0, .class_ 59), (0, .nameAndType 60 61), (0, u "com/example/measurewright/measurewright/RelationTakesQuantityPinLaw"), (0, u "pick"), (0, u "(I)Lcom/example/measurewright/measurewright/Relation;"), (0, .methodref 8 63), (0, .nameAndType 64 65), (0, u "takesQuantity"), (0, u "()Z"), (3, u "law"), (0, u "(I)Z")] 2

def k1m0 : Method := { name := "<init>", desc := "()V", sig := { parameters := [], returnType := none }, accessFlags := 2, code := none }
def k1c1 : Code := { maxStack := 2, maxLocals := 1, code := method_2_code, exceptionTable := #[], attributes := #[] }
def k1m1 : Method := { name := "pick", desc := "(I)Lcom/example/measurewright/measurewright/Relation;", sig := { parameters := [.int], returnType := some (.object "com/example/measurewright/measurewright/Relation") }, accessFlags := 10, code := some k1c1 }
def k1c2 : Code := { maxStack := 2, maxLocals := 4, code := code, exceptionTable := #[], attributes := #[] }
def k1m2 : Method := { name := "law", desc := "(I)Z", sig := { parameters := [.int], returnType := some .boolean }, accessFlags := 9, code := some k1c2 }
/-- com/example/measurewright/measurewright/RelationTakesQuantityPinLaw -/
def k1 : Class := { plain "com/example/measurewright/measurewright/RelationTakesQuantityPinLaw" (some 0) with
  accessFlags := 49
  interfaces := #[]
  cf := some (fileOf pool1 57 #[] #[{ accessFlags := 2, nameIndex := 5, descriptorIndex := 6, attributes := #[] }, { accessFlags := 10, nameIndex := 60, descriptorIndex := 61, attributes := #[] }, { accessFlags := 9, nameIndex := 69, descriptorIndex := 70, attributes := #[] }] 49 2 #[] #[])
  fields := #[]
  methods := #[k1m0, k1m1, k1m2]
  instanceTypes := #[]
  staticTypes := #[]
  resolved := Array.replicate 73 none
  statics := none }

def pool2 : Array CpInfo := pool [(1, .class_ 2), (0, u "java/lang/constant/Constable"), (0, .class_ 4), (0, u "java/lang/Object")] 6

/-- java/lang/constant/Constable -/
def k2 : Class := { plain "java/lang/constant/Constable" (some 0) with
  accessFlags := 1537
  interfaces := #[]
  cf := some (fileOf pool2 1 #[] #[] 1537 3 #[] #[])
  fields := #[]
  methods := #[]
  instanceTypes := #[]
  staticTypes := #[]
  resolved := Array.replicate 11 none
  statics := none }

def pool3 : Array CpInfo := pool [(1, .class_ 2), (0, u "java/lang/Comparable"), (0, .class_ 4), (0, u "java/lang/Object")] 7

/-- java/lang/Comparable -/
def k3 : Class := { plain "java/lang/Comparable" (some 0) with
  accessFlags := 1537
  interfaces := #[]
  cf := some (fileOf pool3 1 #[] #[] 1537 3 #[] #[])
  fields := #[]
  methods := #[]
  instanceTypes := #[]
  staticTypes := #[]
  resolved := Array.replicate 12 none
  statics := none }

def pool4 : Array CpInfo := pool [(1, .class_ 2), (0, u "java/io/Serializable"), (0, .class_ 4), (0, u "java/lang/Object")] 2

/-- java/io/Serializable -/
def k4 : Class := { plain "java/io/Serializable" (some 0) with
  accessFlags := 1537
  interfaces := #[]
  cf := some (fileOf pool4 1 #[] #[] 1537 3 #[] #[])
  fields := #[]
  methods := #[]
  instanceTypes := #[]
  staticTypes := #[]
  resolved := Array.replicate 7 none
  statics := none }

def pool5 : Array CpInfo := pool [(2, .class_ 4), (1, u "java/lang/Enum"), (0, u "name"), (0, u "Ljava/lang/String;"), (2, u "ordinal"), (0, u "I"), (1, .class_ 14), (1, u "java/lang/Object"), (4, u "hash"), (86, .class_ 108), (1, u "java/lang/Enum$EnumDesc"), (2, .class_ 112), (0, u "java/lang/constant/Constable"), (0, .class_ 114), (0, u "java/lang/Comparable"), (0, .class_ 116), (0, u "java/io/Serializable")] 87

/-- java/lang/Enum -/
def k5 : Class := { plain "java/lang/Enum" (some 0) with
  accessFlags := 1057
  interfaces := #[2, 3, 4]
  cf := some (fileOf pool5 2 #[.nestMembers #[106]] #[] 1057 12 #[111, 113, 115] #[{ accessFlags := 18, nameIndex := 5, descriptorIndex := 6, attributes := #[] }, { accessFlags := 18, nameIndex := 9, descriptorIndex := 10, attributes := #[] }, { accessFlags := 2, nameIndex := 19, descriptorIndex := 10, attributes := #[] }])
  fields := #[{ name := "name", type := (.object "java/lang/String"), accessFlags := 18, slot := 0, constantValue := 0 }, { name := "ordinal", type := .int, accessFlags := 18, slot := 1, constantValue := 0 }, { name := "hash", type := .int, accessFlags := 2, slot := 2, constantValue := 0 }]
  methods := #[]
  instanceTypes := #[(.object "java/lang/String"), .int, .int]
  staticTypes := #[]
  resolved := Array.replicate 204 none
  statics := none }

def pool6 : Array CpInfo := pool [(1, .class_ 2), (0, u "com/example/measurewright/measurewright/Relation"), (2, u "SBS"), (0, u "Lcom/example/measurewright/measurewright/Relation;"), (2, u "SAS"), (2, u "SBE"), (2, u "SAE"), (2, u "EBS"), (2, u "EAS"), (2, u "EBE"), (2, u "EAE"), (2, u "SDU"), (2, u "EDU"), (2, u "DURING"), (2, u "OVERLAP"), (2, u "SCW"), (2, u "ECW"), (2, u "CONCURRENT"), (2, u "$VALUES"), (0, u "[Lcom/example/measurewright/measurewright/Relation;"), (6, .class_ 61), (1, u "java/lang/Enum"), (14, u "conditions"), (0, u "Ljava/util/List;"), (20, u "converse"), (1, .class_ 102), (1, u "com/example/measurewright/measurewright/Relation$Condition"), (0, u "measured"), (0, u "()Z"), (0, .fieldref 1 106), (0, .nameAndType 103 107), (0, u "Lcom/example/measurewright/measurewright/Relation$Condition;"), (5, u "converseMeasured"), (21, .class_ 137), (1, u "com/example/measurewright/measurewright/Relation$Point"), (164, u "takesQuantity")] 31

def k6c0 : Code := { maxStack := 1, maxLocals := 1, code := prog_24_method_6_code, exceptionTable := #[], attributes := #[] }
def k6m0 : Method := { name := "takesQuantity", desc := "()Z", sig := { parameters := [], returnType := some .boolean }, accessFlags := 0, code := some k6c0 }
/-- com/example/measurewright/measurewright/Relation -/
def k6 : Class := { plain "com/example/measurewright/measurewright/Relation" (some 5) with
  accessFlags := 16432
  interfaces := #[]
  cf := some (fileOf pool6 1 #[.nestMembers #[100, 135]] #[{ accessFlags := 0, nameIndex := 302, descriptorIndex := 104, attributes := #[] }] 16432 59 #[] #[{ accessFlags := 16409, nameIndex := 5, descriptorIndex := 6, attributes := #[] }, { accessFlags := 16409, nameIndex := 9, descriptorIndex := 6, attributes := #[] }, { accessFlags := 16409, nameIndex := 12, descriptorIndex := 6, attributes := #[] }, { accessFlags := 16409, nameIndex := 15, descriptorIndex := 6, attributes := #[] }, { accessFlags := 16409, nameIndex := 18, descriptorIndex := 6, attributes := #[] }, { accessFlags := 16409, nameIndex := 21, descriptorIndex := 6, attributes := #[] }, { accessFlags := 16409, nameIndex := 24, descriptorIndex := 6, attributes := #[] }, { accessFlags := 16409, nameIndex := 27, descriptorIndex := 6, attributes := #[] }, { accessFlags := 16409, nameIndex := 30, descriptorIndex := 6, attributes := #[] }, { accessFlags := 16409, nameIndex := 33, descriptorIndex := 6, attributes := #[] }, { accessFlags := 16409, nameIndex := 36, descriptorIndex := 6, attributes := #[] }, { accessFlags := 16409, nameIndex := 39, descriptorIndex := 6, attributes := #[] }, { accessFlags := 16409, nameIndex := 42, descriptorIndex := 6, attributes := #[] }, { accessFlags := 16409, nameIndex := 45, descriptorIndex := 6, attributes := #[] }, { accessFlags := 16409, nameIndex := 48, descriptorIndex := 6, attributes := #[] }, { accessFlags := 18, nameIndex := 76, descriptorIndex := 77, attributes := #[] }, { accessFlags := 18, nameIndex := 98, descriptorIndex := 77, attributes := #[] }, { accessFlags := 18, nameIndex := 103, descriptorIndex := 107, attributes := #[] }, { accessFlags := 18, nameIndex := 113, descriptorIndex := 107, attributes := #[] }, { accessFlags := 4122, nameIndex := 51, descriptorIndex := 52, attributes := #[] }])
  fields := #[{ name := "SBS", type := (.object "com/example/measurewright/measurewright/Relation"), accessFlags := 16409, slot := 0, constantValue := 0 }, { name := "SAS", type := (.object "com/example/measurewright/measurewright/Relation"), accessFlags := 16409, slot := 1, constantValue := 0 }, { name := "SBE", type := (.object "com/example/measurewright/measurewright/Relation"), accessFlags := 16409, slot := 2, constantValue := 0 }, { name := "SAE", type := (.object "com/example/measurewright/measurewright/Relation"), accessFlags := 16409, slot := 3, constantValue := 0 }, { name := "EBS", type := (.object "com/example/measurewright/measurewright/Relation"), accessFlags := 16409, slot := 4, constantValue := 0 }, { name := "EAS", type := (.object "com/example/measurewright/measurewright/Relation"), accessFlags := 16409, slot := 5, constantValue := 0 }, { name := "EBE", type := (.object "com/example/measurewright/measurewright/Relation"), accessFlags := 16409, slot := 6, constantValue := 0 }, { name := "EAE", type := (.object "com/example/measurewright/measurewright/Relation"), accessFlags := 16409, slot := 7, constantValue := 0 }, { name := "SDU", type := (.object "com/example/measurewright/measurewright/Relation"), accessFlags := 16409, slot := 8, constantValue := 0 }, { name := "EDU", type := (.object "com/example/measurewright/measurewright/Relation"), accessFlags := 16409, slot := 9, constantValue := 0 }, { name := "DURING", type := (.object "com/example/measurewright/measurewright/Relation"), accessFlags := 16409, slot := 10, constantValue := 0 }, { name := "OVERLAP", type := (.object "com/example/measurewright/measurewright/Relation"), accessFlags := 16409, slot := 11, constantValue := 0 }, { name := "SCW", type := (.object "com/example/measurewright/measurewright/Relation"), accessFlags := 16409, slot := 12, constantValue := 0 }, { name := "ECW", type := (.object "com/example/measurewright/measurewright/Relation"), accessFlags := 16409, slot := 13, constantValue := 0 }, { name := "CONCURRENT", type := (.object "com/example/measurewright/measurewright/Relation"), accessFlags := 16409, slot := 14, constantValue := 0 }, { name := "conditions", type := (.object "java/util/List"), accessFlags := 18, slot := 3, constantValue := 0 }, { name := "converse", type := (.object "java/util/List"), accessFlags := 18, slot := 4, constantValue := 0 }, { name := "measured", type := (.object "com/example/measurewright/measurewright/Relation$Condition"), accessFlags := 18, slot := 5, constantValue := 0 }, { name := "converseMeasured", type := (.object "com/example/measurewright/measurewright/Relation$Condition"), accessFlags := 18, slot := 6, constantValue := 0 }, { name := "$VALUES", type := (.array (.object "com/example/measurewright/measurewright/Relation")), accessFlags := 4122, slot := 15, constantValue := 0 }]
  methods := #[k6m0]
  instanceTypes := #[(.object "java/lang/String"), .int, .int, (.object "java/util/List"), (.object "java/util/List"), (.object "com/example/measurewright/measurewright/Relation$Condition"), (.object "com/example/measurewright/measurewright/Relation$Condition")]
  staticTypes := #[(.object "com/example/measurewright/measurewright/Relation"), (.object "com/example/measurewright/measurewright/Relation"), (.object "com/example/measurewright/measurewright/Relation"), (.object "com/example/measurewright/measurewright/Relation"), (.object "com/example/measurewright/measurewright/Relation"), (.object "com/example/measurewright/measurewright/Relation"), (.object "com/example/measurewright/measurewright/Relation"), (.object "com/example/measurewright/measurewright/Relation"), (.object "com/example/measurewright/measurewright/Relation"), (.object "com/example/measurewright/measurewright/Relation"), (.object "com/example/measurewright/measurewright/Relation"), (.object "com/example/measurewright/measurewright/Relation"), (.object "com/example/measurewright/measurewright/Relation"), (.object "com/example/measurewright/measurewright/Relation"), (.object "com/example/measurewright/measurewright/Relation"), (.array (.object "com/example/measurewright/measurewright/Relation"))]
  resolved := Array.replicate 334 none
  statics := some 0 }

def pool7 : Array CpInfo := pool [(2, .class_ 4), (1, u "java/lang/Object"), (0, u "<init>"), (0, u "()V"), (0, .class_ 8), (0, u "java/lang/Record")] 13

def k7m0 : Method := { name := "<init>", desc := "()V", sig := { parameters := [], returnType := none }, accessFlags := 4, code := none }
/-- java/lang/Record -/
def k7 : Class := { plain "java/lang/Record" (some 0) with
  accessFlags := 1057
  interfaces := #[]
  cf := some (fileOf pool7 7 #[] #[{ accessFlags := 4, nameIndex := 5, descriptorIndex := 6, attributes := #[] }] 1057 2 #[] #[])
  fields := #[]
  methods := #[k7m0]
  instanceTypes := #[]
  staticTypes := #[]
  resolved := Array.replicate 22 none
  statics := none }

def pool8 : Array CpInfo := pool [(2, .class_ 4), (1, u "java/lang/Record"), (3, .class_ 10), (1, u "com/example/measurewright/measurewright/Relation$Condition"), (0, u "x"), (0, u "Lcom/example/measurewright/measurewright/Relation$Point;"), (2, u "comparison"), (0, u "Lcom/example/measurewright/measurewright/Comparison;"), (2, u "y"), (2, u "measured"), (0, u "Z"), (53, .class_ 78), (0, u "com/example/measurewright/measurewright/Relation")] 23

/-- com/example/measurewright/measurewright/Relation$Condition -/
def k8 : Class := { plain "com/example/measurewright/measurewright/Relation$Condition" (some 7) with
  accessFlags := 48
  interfaces := #[]
  cf := some (fileOf pool8 8 #[.nestHost 77] #[] 48 2 #[] #[{ accessFlags := 18, nameIndex := 11, descriptorIndex := 12, attributes := #[] }, { accessFlags := 18, nameIndex := 15, descriptorIndex := 16, attributes := #[] }, { accessFlags := 18, nameIndex := 19, descriptorIndex := 12, attributes := #[] }, { accessFlags := 18, nameIndex := 22, descriptorIndex := 23, attributes := #[] }])
  fields := #[{ name := "x", type := (.object "com/example/measurewright/measurewright/Relation$Point"), accessFlags := 18, slot := 0, constantValue := 0 }, { name := "comparison", type := (.object "com/example/measurewright/measurewright/Comparison"), accessFlags := 18, slot := 1, constantValue := 0 }, { name := "y", type := (.object "com/example/measurewright/measurewright/Relation$Point"), accessFlags := 18, slot := 2, constantValue := 0 }, { name := "measured", type := .boolean, accessFlags := 18, slot := 3, constantValue := 0 }]
  methods := #[]
  instanceTypes := #[(.object "com/example/measurewright/measurewright/Relation$Point"), (.object "com/example/measurewright/measurewright/Comparison"), (.object "com/example/measurewright/measurewright/Relation$Point"), .boolean]
  staticTypes := #[]
  resolved := Array.replicate 102 none
  statics := none }

def pool9 : Array CpInfo := pool [(1, u "java/lang/Cloneable"), (0, .class_ 1), (0, u "java/lang/Object"), (0, .class_ 3)] 3

/-- java/lang/Cloneable -/
def k9 : Class := { plain "java/lang/Cloneable" (some 0) with
  accessFlags := 1537
  interfaces := #[]
  cf := some (fileOf pool9 2 #[] #[] 1537 4 #[] #[])
  fields := #[]
  methods := #[]
  instanceTypes := #[]
  staticTypes := #[]
  resolved := Array.replicate 8 none
  statics := none }

/-- the primitive byte -/
def k10 : Class := { plain "byte" none with kind := .primitive 'B', accessFlags := 0x411 }
/-- [B -/
def k11 : Class := { plain "[B" (some 0) with kind := .array 10 .byte, interfaces := #[9, 4], accessFlags := 1041 }

/-- the primitive int -/
def k12 : Class := { plain "int" none with kind := .primitive 'I', accessFlags := 0x411 }
/-- [I -/
def k13 : Class := { plain "[I" (some 0) with kind := .array 12 .int, interfaces := #[9, 4], accessFlags := 1041 }

def heap : Heap := #[{ cls := 6, slots := #[.ref 1, .ref 12, .ref 9, .ref 4, .ref 14, .ref 5, .ref 7, .ref 8, .ref 11, .ref 15, .ref 10, .ref 2, .ref 13, .ref 6, .ref 3, .null], vm := .statics 6 },
  { cls := 6, slots := #[.null, .int 0, .int 0, .null, .null, .ref 16, .null], vm := .none },
  { cls := 6, slots := #[.null, .int 11, .int 0, .null, .null, .null, .null], vm := .none },
  { cls := 6, slots := #[.null, .int 14, .int 0, .null, .null, .null, .null], vm := .none },
  { cls := 6, slots := #[.null, .int 3, .int 0, .null, .null, .ref 17, .null], vm := .none },
  { cls := 6, slots := #[.null, .int 5, .int 0, .null, .null, .ref 18, .null], vm := .none },
  { cls := 6, slots := #[.null, .int 13, .int 0, .null, .null, .ref 19, .null], vm := .none },
  { cls := 6, slots := #[.null, .int 6, .int 0, .null, .null, .ref 20, .null], vm := .none },
  { cls := 6, slots := #[.null, .int 7, .int 0, .null, .null, .ref 21, .null], vm := .none },
  { cls := 6, slots := #[.null, .int 2, .int 0, .null, .null, .ref 22, .null], vm := .none },
  { cls := 6, slots := #[.null, .int 10, .int 0, .null, .null, .ref 23, .null], vm := .none },
  { cls := 6, slots := #[.null, .int 8, .int 0, .null, .null, .ref 24, .null], vm := .none },
  { cls := 6, slots := #[.null, .int 1, .int 0, .null, .null, .ref 25, .null], vm := .none },
  { cls := 6, slots := #[.null, .int 12, .int 0, .null, .null, .ref 26, .null], vm := .none },
  { cls := 6, slots := #[.null, .int 4, .int 0, .null, .null, .ref 27, .null], vm := .none },
  { cls := 6, slots := #[.null, .int 9, .int 0, .null, .null, .ref 28, .null], vm := .none },
  { cls := 8, slots := #[.null, .null, .null, .int 0], vm := .none },
  { cls := 8, slots := #[.null, .null, .null, .int 0], vm := .none },
  { cls := 8, slots := #[.null, .null, .null, .int 0], vm := .none },
  { cls := 8, slots := #[.null, .null, .null, .int 0], vm := .none },
  { cls := 8, slots := #[.null, .null, .null, .int 0], vm := .none },
  { cls := 8, slots := #[.null, .null, .null, .int 0], vm := .none },
  { cls := 8, slots := #[.null, .null, .null, .int 0], vm := .none },
  { cls := 8, slots := #[.null, .null, .null, .int 0], vm := .none },
  { cls := 8, slots := #[.null, .null, .null, .int 0], vm := .none },
  { cls := 8, slots := #[.null, .null, .null, .int 0], vm := .none },
  { cls := 8, slots := #[.null, .null, .null, .int 0], vm := .none },
  { cls := 8, slots := #[.null, .null, .null, .int 0], vm := .none },
  { cls := 8, slots := #[.null, .null, .null, .int 0], vm := .none }]
def classes : Array Class := #[k0, k1, k2, k3, k4, k5, k6, k7, k8, k9, k10, k11, k12, k13]
def interned : List (Array UInt16 × Addr) := []
def slotsUsed : Nat := 173
def theMethod : MethodId := ⟨1, 2⟩
def args0 : Array Value := #[.int 5]
def aboutOver (below : List Frame) : State where
  vm := { classes := classes, interned := interned.toArray }
  heap := heap
  slotsUsed := slotsUsed
  threads := #[{ frames := .invoking theMethod args0 :: below }]
def below0 : List Frame := [.native { method := ⟨0, 0⟩, args := #[] }]
def about1 : State := aboutOver below0
def p0 : Program := .bare "" "" ""
def e0 : Env := launch0.env 0 0 0
theorem w_frames : about1.frames = Frame.invoking theMethod args0 :: below0 := rfl
set_option maxRecDepth 65536 in
theorem w_args : argsFit about1.vm theMethod args0 = true := by decide +kernel
set_option maxRecDepth 65536 in
theorem w_heap : heapFits about1 = true := by decide +kernel
set_option maxRecDepth 65536 in
theorem w_runnable : about1.curStatus? = some .runnable := by decide +kernel
set_option maxRecDepth 65536 in
theorem w_alone : about1.alone = true := by decide +kernel
set_option maxRecDepth 65536 in
theorem w_named : about1.methodNamed? x = some theMethod := by decide +kernel
set_option maxRecDepth 65536 in
theorem w_hears : about1.hears theMethod below0 = true := by decide +kernel
set_option maxRecDepth 65536 in
theorem w_ripe : about1.ripe theMethod args0 below0 = true := by decide +kernel
theorem w_running : about1.status = .running := rfl
set_option maxRecDepth 65536 in
theorem w_room : about1.hasRoom e0.platform room_1 = true :=
  launch0.hasRoom_least _ room_1 (by decide +kernel) (by decide +kernel) (by decide +kernel) (by decide +kernel) (by decide +kernel) (by decide +kernel)
theorem allAtoms_all (ts : List Jvm.Cond) (a : Array Jvm.Value) (st : Jvm.State) : (allAtoms ts).before a st = ts.all (fun c => c.before a st) := by
  induction ts with
  | nil => rfl
  | cons c t ih =>
    show (Jvm.Cond.and c (allAtoms t)).before a st = _
    rw [Jvm.Cond.before_and, ih, List.all_cons]
def words1 : List Jvm.Cond := Jvm.Cond.code x code maxLocals ret :: tables_1
/-- a 'code' word, met by the world's own term for the bytes: nothing is compared byte by byte -/
theorem code_word {y : MethodName} {bytes : ByteArray} {mx : Nat} {rt : Option FieldType} {a : Array Value} {s : State} {m : MethodId} {meth : Method} {c : Code} (h1 : s.methodNamed? y = some m) (h2 : s.vm.method? m = some meth) (h3 : meth.code = some c) (h4 : c.code = bytes)
    (h5 : (c.maxLocals == mx && c.exceptionTable.isEmpty && decide (c.maxStack ≤ mostOperands) && decide (meth.sig.returnType = rt) && !meth.locks && decide (parseMethodDescriptor y.desc = some meth.sig)) = true) : (Jvm.Cond.code y bytes mx rt).before a s = true := by
  simp only [Bool.and_eq_true, beq_iff_eq, Bool.not_eq_true', decide_eq_true_eq] at h5
  obtain ⟨⟨⟨⟨⟨g1, g2⟩, g3⟩, g4⟩, g5⟩, g6⟩ := h5
  simp [Cond.before, Cond.holds, Cond.value, h1, h2, h3, h4, g1, g2, g3, g4, g5, g6]
def isCode : Jvm.Cond → Bool
  | .code _ _ _ _ => true
  | _ => false
theorem all_split {L : List Jvm.Cond} {P : Jvm.Cond → Bool} (h1 : L.all (fun c => isCode c || P c) = true) (h2 : ∀ c ∈ L.filter isCode, P c = true) : L.all P = true := by
  refine List.all_eq_true.mpr fun c hc => ?_
  have h := List.all_eq_true.mp h1 c hc
  rcases Bool.eq_false_or_eq_true (isCode c) with hi | hi
  · exact h2 c (List.mem_filter.mpr ⟨hc, hi⟩)
  · simpa [hi] using h
set_option maxRecDepth 65536 in
theorem w_c0 : (Jvm.Cond.code x code maxLocals ret).before args0 about1 = true := code_word (m := ⟨1, 2⟩) (meth := k1m2) (c := k1c2) (by decide +kernel) rfl rfl rfl (by decide +kernel)
set_option maxRecDepth 65536 in
theorem w_c1 : (Jvm.Cond.code ({ cls := "com/example/measurewright/measurewright/RelationTakesQuantityPinLaw", name := "pick", desc := "(I)Lcom/example/measurewright/measurewright/Relation;" } : Jvm.MethodName) method_2_code (1 : Nat) (Option.some (Jvm.ClassFile.FieldType.object "com/example/measurewright/measurewright/Relation"))).before args0 about1 = true := code_word (m := ⟨1, 1⟩) (meth := k1m1) (c := k1c1) (by decide +kernel) rfl rfl rfl (by decide +kernel)
set_option maxRecDepth 65536 in
theorem w_c2 : (Jvm.Cond.code ({ cls := "com/example/measurewright/measurewright/Relation", name := "takesQuantity", desc := "()Z" } : Jvm.MethodName) prog_24_method_6_code (1 : Nat) (Option.some Jvm.ClassFile.FieldType.boolean)).before args0 about1 = true := code_word (m := ⟨6, 0⟩) (meth := k6m0) (c := k6c0) (by decide +kernel) rfl rfl rfl (by decide +kernel)
def codes1 : List Jvm.Cond := [Jvm.Cond.code x code maxLocals ret, Jvm.Cond.code ({ cls := "com/example/measurewright/measurewright/RelationTakesQuantityPinLaw", name := "pick", desc := "(I)Lcom/example/measurewright/measurewright/Relation;" } : Jvm.MethodName) method_2_code (1 : Nat) (Option.some (Jvm.ClassFile.FieldType.object "com/example/measurewright/measurewright/Relation")), Jvm.Cond.code ({ cls := "com/example/measurewright/measurewright/Relation", name := "takesQuantity", desc := "()Z" } : Jvm.MethodName) prog_24_method_6_code (1 : Nat) (Option.some Jvm.ClassFile.FieldType.boolean)]
set_option maxRecDepth 65536 in
theorem codes_eq : words1.filter isCode = codes1 := rfl
theorem w_codes : ∀ c ∈ words1.filter isCode, c.before args0 about1 = true := by
  rw [codes_eq]
  intro c hc
  simp only [codes1, List.mem_cons, List.not_mem_nil, or_false] at hc
  rcases hc with rfl | rfl | rfl
  · exact w_c0
  · exact w_c1
  · exact w_c2
set_option maxRecDepth 65536 in
theorem w_t1 : (words1.take 24).all (fun c => isCode c || c.before args0 about1) = true := by decide +kernel
set_option maxRecDepth 65536 in
theorem w_t2 : (words1.drop 24).all (fun c => isCode c || c.before args0 about1) = true := by decide +kernel
theorem w_tables : (allAtoms (Jvm.Cond.code x code maxLocals ret :: tables_1)).before args0 about1 = true := by
  rw [allAtoms_all]
  show words1.all (fun c => c.before args0 about1) = true
  refine all_split ?_ w_codes
  rw [← List.take_append_drop 24 words1, List.all_append, w_t1, w_t2]
  rfl
set_option maxRecDepth 65536 in
theorem w_case : (Jvm.Cond.and given_1 narrow_1).before args0 about1 = true := by decide +kernel
theorem w_applies : (headSpec (Jvm.Cond.code x code maxLocals ret :: tables_1) room_1).applies x e0.platform about1 = true :=
  (Spec.applies_iff w_frames).mpr ⟨w_running, w_runnable, w_alone, w_named, w_hears, w_ripe, w_room, w_tables⟩
theorem atStart : AtStart classFile x code maxLocals ret World_1 tables_1 room_1 Calls_1 rest_1 Pre_1 launch0 p0 e0 about1 theMethod args0 below0 :=
  ⟨lists_1, trivial, launch0.admits_env _ _ _, launch0.least_env, fairChoices_fair.cas, fairChoices_fair.clock, w_frames, w_args, w_heap, w_applies, trivial, trivial, w_case⟩
end start1
theorem witness_1 : WitnessClaimed_1 := ⟨start1.p0, start1.e0, start1.about1, start1.theMethod, start1.args0, start1.below0, start1.atStart⟩
end Jvm.Pilot.@@N@@
