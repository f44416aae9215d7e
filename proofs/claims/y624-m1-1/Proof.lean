import JvmDerived
import JvmDerived.Pilot.@@N@@Statement
import JvmDerived.Pilot.@@N@@Code
set_option linter.unusedVariables false
set_option linter.unusedSimpArgs false
namespace Jvm.RoadKit
open Sem ClassFile Op Lib Jvm.Stand Jvm.Free Jvm.LawKit
section New
variable {p : Program} {l : Launch} {e : Env} {R : Room} {s : State} {m : MethodId} {args : Array Value} {below : List Frame} {meth : Method} {c : Code} {T : State} {locs : List Loc} {cells slots : Nat}
theorem retI (X : Stand p l e R s m args below meth c T locs cells slots) (hx : p.tables.exec = Jvm.exec) {pc : Nat} {Ls : Array Slot} {z : Int32} {rest : List Value} (hret : meth.sig.returnType = some .int) (hd : decode c.code pc = .ok (.ireturn, 1)) {fs : List Frame}
    (hl : ∀ (f : JFrame) (acts : List Action), f.method = m → f.locked = none → f.entered = [] → (doReturn e (T.setTop f) acts (some (.int z))).1 = T.setFrames fs) : Steps p.tables e below (T.setTop (mkF m pc Ls (.int z :: rest))) (T.setFrames fs) :=
  retOut X hx hret rfl (Or.inl ⟨rfl, Or.inl rfl, _, rfl⟩) hd hl
end New
end Jvm.RoadKit
namespace Jvm.Pilot.@@N@@
open Jvm Jvm.ClassFile Sem Op Lib Jvm.Free Jvm.Stand Jvm.LawKit Jvm.RoadKit Bundle Jvm.Pilot.@@N@@.Jvm.D
abbrev own_m0 : MethodName := ⟨"jdk/internal/util/Preconditions", "checkIndex", "(IILjava/util/function/BiFunction;)I"⟩
abbrev own_m1 : MethodName := ⟨"com/example/makusanyo/makusanyo/PercentEscapes", "hexDigit", "(I)Z"⟩
abbrev own_m2 : MethodName := ⟨"java/lang/String", "charAt", "(I)C"⟩
abbrev own_m3 : MethodName := ⟨"java/lang/String", "isLatin1", "()Z"⟩
abbrev own_m4 : MethodName := ⟨"java/lang/String", "checkIndex", "(II)V"⟩
abbrev own_m5 : MethodName := ⟨"java/lang/StringLatin1", "charAt", "([BI)C"⟩
abbrev own_m6 : MethodName := ⟨"com/example/makusanyo/makusanyo/PercentEscapesHexDigitPinLaw", "reference", "(I)Z"⟩
/-- what a body that writes nothing leaves: its value, no place written, the heap as it was -/
def PQ (w : Option Value) (h0 : Heap) (n0 : Nat) (v : Option Value) (h : Heap) (L : List Loc) : Prop := v = w ∧ Fr n0 L ∧ h = h0
def LQ (n0 : Nat) (v : Option Value) (h : Heap) (L : List Loc) : Prop := v = some (.int (1 : Int32)) ∧ Fr n0 L ∧ True
theorem own_pd0 : parseMethodDescriptor "()Z" = some ⟨[], some .boolean⟩ := by decide +kernel
theorem own_pd1 : parseMethodDescriptor "(IILjava/util/function/BiFunction;)I" = some ⟨[.int, .int, (.object "java/util/function/BiFunction")], some .int⟩ := by decide +kernel
theorem own_pd2 : parseMethodDescriptor "(II)V" = some ⟨[.int, .int], none⟩ := by decide +kernel
theorem own_pd3 : parseMethodDescriptor "([BI)C" = some ⟨[(.array .byte), .int], some .char⟩ := by decide +kernel
theorem own_pd4 : parseMethodDescriptor "(I)C" = some ⟨[.int], some .char⟩ := by decide +kernel
theorem own_pd5 : parseMethodDescriptor "(I)Z" = some ⟨[.int], some .boolean⟩ := by decide +kernel
theorem own_k22 (p : Int32) : ∃ n, n < 22 ∧ ((p &&& (2147483647 : Int32)) % (22 : Int32)) = Int32.ofNat n := by
  have q0 := c_and p 2147483647 (by decide)
  have q := (c_irem (p &&& (2147483647 : Int32)) (22 : Int32) 22 rfl).1 q0.1
  refine ⟨((p &&& (2147483647 : Int32)).toInt % 22).toNat, by omega, ?_⟩
  rw [← Int32.toInt_inj, q, Int32.toInt_ofNat_small (by omega)]
  omega
theorem own_lo22 (p : Int32) : ¬ (((p &&& (2147483647 : Int32)) % (22 : Int32)) < (0 : Int32)) := by
  obtain ⟨n, hn, hk⟩ := own_k22 p
  rw [hk, Int32.lt_iff_toInt_lt, Int32.toInt_ofNat_small (by omega)]
  show ¬ ((n : Int) < 0)
  omega
theorem own_hi22 (p : Int32) : ((p &&& (2147483647 : Int32)) % (22 : Int32)) < (22 : Int32) := by
  obtain ⟨n, hn, hk⟩ := own_k22 p
  rw [hk, Int32.lt_iff_toInt_lt, Int32.toInt_ofNat_small (by omega)]
  show (n : Int) < 22
  omega
theorem own_k6 (p : Int32) : ∃ n, n < 6 ∧ ((p &&& (2147483647 : Int32)) % (6 : Int32)) = Int32.ofNat n := by
  have q0 := c_and p 2147483647 (by decide)
  have q := (c_irem (p &&& (2147483647 : Int32)) (6 : Int32) 6 rfl).1 q0.1
  refine ⟨((p &&& (2147483647 : Int32)).toInt % 6).toNat, by omega, ?_⟩
  rw [← Int32.toInt_inj, q, Int32.toInt_ofNat_small (by omega)]
  omega
theorem own_lo6 (p : Int32) : ¬ (((p &&& (2147483647 : Int32)) % (6 : Int32)) < (0 : Int32)) := by
  obtain ⟨n, hn, hk⟩ := own_k6 p
  rw [hk, Int32.lt_iff_toInt_lt, Int32.toInt_ofNat_small (by omega)]
  show ¬ ((n : Int) < 0)
  omega
theorem own_hi6 (p : Int32) : ((p &&& (2147483647 : Int32)) % (6 : Int32)) < (6 : Int32) := by
  obtain ⟨n, hn, hk⟩ := own_k6 p
  rw [hk, Int32.lt_iff_toInt_lt, Int32.toInt_ofNat_small (by omega)]
  show (n : Int) < 6
  omega
theorem own_getD (l : List Int32) : ∀ n : Nat, (l.map Value.int).getD n (.int 0) = .int (l.getD n 0) := by
  induction l with
  | nil => intro n; rfl
  | cons x r ih => intro n; cases n with | zero => rfl | succ n => exact ih n
def own_tab0 (i : Int32) : Int32 := ([48, 49, 50, 51, 52, 53, 54, 55, 56, 57, 97, 98, 99, 100, 101, 102, 65, 66, 67, 68, 69, 70] : List Int32).getD i.toNatClampNeg 0
theorem own_tab0_at (i : Int32) : ([(.int (48 : Int32)), (.int (49 : Int32)), (.int (50 : Int32)), (.int (51 : Int32)), (.int (52 : Int32)), (.int (53 : Int32)), (.int (54 : Int32)), (.int (55 : Int32)), (.int (56 : Int32)), (.int (57 : Int32)), (.int (97 : Int32)), (.int (98 : Int32)), (.int (99 : Int32)), (.int (100 : Int32)), (.int (101 : Int32)), (.int (102 : Int32)), (.int (65 : Int32)), (.int (66 : Int32)), (.int (67 : Int32)), (.int (68 : Int32)), (.int (69 : Int32)), (.int (70 : Int32))] : List Value).getD i.toNatClampNeg (.int (0 : Int32)) = .int (own_tab0 i) := own_getD [48, 49, 50, 51, 52, 53, 54, 55, 56, 57, 97, 98, 99, 100, 101, 102, 65, 66, 67, 68, 69, 70] _
def own_tab1 (i : Int32) : Int32 := ([47, 58, 96, 103, 64, 71] : List Int32).getD i.toNatClampNeg 0
theorem own_tab1_at (i : Int32) : ([(.int (47 : Int32)), (.int (58 : Int32)), (.int (96 : Int32)), (.int (103 : Int32)), (.int (64 : Int32)), (.int (71 : Int32))] : List Value).getD i.toNatClampNeg (.int (0 : Int32)) = .int (own_tab1 i) := own_getD [47, 58, 96, 103, 64, 71] _
theorem own_c128 : ∀ n : Nat, n < 128 → (nar .char (nar .char (((Int32.ofNat n) &&& (255 : Int32)).toUInt32.toUInt16.toUInt32.toInt32))) = Int32.ofNat n := by decide +kernel
theorem own_in0 (i : Int32) : ∃ n, n < 128 ∧ own_tab0 i = Int32.ofNat n := by
  unfold own_tab0
  generalize i.toNatClampNeg = j
  match j with
  | 0 => exact ⟨48, by decide, rfl⟩
  | 1 => exact ⟨49, by decide, rfl⟩
  | 2 => exact ⟨50, by decide, rfl⟩
  | 3 => exact ⟨51, by decide, rfl⟩
  | 4 => exact ⟨52, by decide, rfl⟩
  | 5 => exact ⟨53, by decide, rfl⟩
  | 6 => exact ⟨54, by decide, rfl⟩
  | 7 => exact ⟨55, by decide, rfl⟩
  | 8 => exact ⟨56, by decide, rfl⟩
  | 9 => exact ⟨57, by decide, rfl⟩
  | 10 => exact ⟨97, by decide, rfl⟩
  | 11 => exact ⟨98, by decide, rfl⟩
  | 12 => exact ⟨99, by decide, rfl⟩
  | 13 => exact ⟨100, by decide, rfl⟩
  | 14 => exact ⟨101, by decide, rfl⟩
  | 15 => exact ⟨102, by decide, rfl⟩
  | 16 => exact ⟨65, by decide, rfl⟩
  | 17 => exact ⟨66, by decide, rfl⟩
  | 18 => exact ⟨67, by decide, rfl⟩
  | 19 => exact ⟨68, by decide, rfl⟩
  | 20 => exact ⟨69, by decide, rfl⟩
  | 21 => exact ⟨70, by decide, rfl⟩
  | j + 22 => exact ⟨0, by decide, rfl⟩
theorem own_ch0 (i : Int32) : (nar .char (nar .char (((own_tab0 i) &&& (255 : Int32)).toUInt32.toUInt16.toUInt32.toInt32))) = own_tab0 i := by
  obtain ⟨n, hn, hk⟩ := own_in0 i
  rw [hk]
  exact own_c128 n hn
theorem own_in1 (i : Int32) : ∃ n, n < 128 ∧ own_tab1 i = Int32.ofNat n := by
  unfold own_tab1
  generalize i.toNatClampNeg = j
  match j with
  | 0 => exact ⟨47, by decide, rfl⟩
  | 1 => exact ⟨58, by decide, rfl⟩
  | 2 => exact ⟨96, by decide, rfl⟩
  | 3 => exact ⟨103, by decide, rfl⟩
  | 4 => exact ⟨64, by decide, rfl⟩
  | 5 => exact ⟨71, by decide, rfl⟩
  | j + 6 => exact ⟨0, by decide, rfl⟩
theorem own_ch1 (i : Int32) : (nar .char (nar .char (((own_tab1 i) &&& (255 : Int32)).toUInt32.toUInt16.toUInt32.toInt32))) = own_tab1 i := by
  obtain ⟨n, hn, hk⟩ := own_in1 i
  rw [hk]
  exact own_c128 n hn
theorem own_strAtoms (a0 : Array Value) (Z : State) (hw : ∀ d ∈ tables_1, d.before a0 Z = true) : ∀ a ∈ Bundle.stringAtoms, a.before a0 Z = true := by
  intro d hd
  simp only [Bundle.stringAtoms, Bundle.sN, List.mem_cons, List.not_mem_nil, or_false] at hd
  rcases hd with rfl | rfl | rfl | rfl | rfl | rfl | rfl
  · exact (hw _ (List.mem_of_getElem? (i := 1) rfl))
  · exact (hw _ (List.mem_of_getElem? (i := 2) rfl))
  · exact (hw _ (List.mem_of_getElem? (i := 3) rfl))
  · exact (hw _ (List.mem_of_getElem? (i := 4) rfl))
  · exact (hw _ (List.mem_of_getElem? (i := 5) rfl))
  · exact (hw _ (List.mem_of_getElem? (i := 6) rfl))
  · exact (hw _ (List.mem_of_getElem? (i := 7) rfl))
theorem own_eqv {s : State} {args : Array Value} {t u : Term} {w : Value} (hu : u.eval args s none [] s = some w) (h : (Cond.eq t u).value args s none s [] = some true) (hk : (match w with | .retAddr _ => false | .float _ => false | .double _ => false | _ => true) = true := by rfl) : t.eval args s none [] s = some w := by
  obtain ⟨x, y, e1, e2, -, -⟩ := cmp_v (Or.inl h)
  cases hu.symm.trans e2
  rw [e1]
  simp only [Cond.value, e1, hu] at h
  cases x <;> cases w <;> simp at h hk ⊢ <;> exact h
theorem own_fld {s : State} {args : Array Value} {t : Term} {C n d : String} {a : Addr} {v : Value} (ht : t.eval args s none [] s = some (.ref a)) (h : (Term.field t C n d).eval args s none [] s = some v) : Fld s s.heap a C n d v := Fld.start ((fld_at ht).symm.trans h)
theorem own_len {s : State} {args : Array Value} {t : Term} {ty : FieldType} {a : Addr} {n : Int32} (ht : t.eval args s none [] s = some (.ref a)) (ha : (Cond.arrayOf t ty).value args s none s [] = some true) (hl : (Cond.eq (.length t) (.int n)).value args s none s [] = some true) (hn : ¬ n < 0) :
    ∃ c : Cell, Arr s s.heap a c ty ∧ c.slots.size < 2 ^ 31 ∧ c.slots.size.toInt32 = n := by
  obtain ⟨c, A⟩ := Arr.start ht ha
  have e := own_eqv (Term.int_eval n) hl
  have A2 := A.fin (Vm.Alike.refl _)
  obtain ⟨x, c2, e1, e2, e3⟩ := Term.length_spec e
  cases ht.symm.trans e1
  cases A2.symm.trans e2
  have h31 := SBG.length_lt ht A2 e
  refine ⟨c, A, h31, ?_⟩
  have := len_f ht A2 h31
  rw [e] at this
  simpa using (Option.some.inj this).symm
theorem own_elem {s : State} {args : Array Value} {t : Term} {ty : FieldType} {a : Addr} {c : Cell} {j : Int32} {v : Value} (ht : t.eval args s none [] s = some (.ref a)) (A : Arr s s.heap a c ty) (h : (Term.elem t (.int j)).eval args s none [] s = some v) : c.slots[j.toNatClampNeg]? = some v := (elem_in h ht (Term.int_eval j) A.1).2
theorem own_all0 {s : State} {args : Array Value} {t : Term} {ty : FieldType} {a : Addr} {c : Cell} {k n : Int32} (ht : ∀ idx, t.eval args s none idx s = some (.ref a)) (A : Arr s s.heap a c ty) (h31 : c.slots.size < 2 ^ 31) (hn : c.slots.size.toInt32 = n)
    (h : (Cond.all t (.or (.lt (.index 0) (.int k)) (.eq (.elem t (.index 0)) (.int 0)))).value args s none s [] = some true) (j : Nat) (hj : j < n.toNatClampNeg) (hk : ¬ j.toInt32 < k) : c.slots[j]? = some (.int 0) := by
  have A2 := A.fin (Vm.Alike.refl _)
  have hsz : n.toNatClampNeg = c.slots.size := by rw [← hn]; simp only [Int32.toNatClampNeg, len_toInt h31]; rfl
  have hj2 : j < c.slots.size := hsz ▸ hj
  have q := Cond.all_elim (ht []) A2 h j hj2
  have e1 : (Term.index 0).eval args s none [j] s = some (.int j.toInt32) := rfl
  have l1 : (Cond.lt (.index 0) (.int k)).value args s none s [j] = some false := by
    simp [Cond.value, e1, Term.int_eval, hk]
  have q2 : (Cond.eq (.elem t (.index 0)) (.int 0)).value args s none s [j] = some true := by
    have q3 : (match (Cond.lt (.index 0) (.int k)).value args s none s [j] with | some false => (Cond.eq (.elem t (.index 0)) (.int 0)).value args s none s [j] | x => x) = some true := q
    rw [l1] at q3
    exact q3
  obtain ⟨x, y, e2, e3, -, -⟩ := cmp_v (Or.inl q2)
  cases (Term.int_eval (args := args) (first := s) (o := none) (idx := [j]) (s := s) 0).symm.trans e3
  have e4 : (Term.elem t (.index 0)).eval args s none [j] s = some (.int 0) := by
    simp only [Cond.value, e2, e3] at q2
    rw [e2]; cases x <;> simp at q2 ⊢; exact q2
  have e5 := elem_in e4 (ht [j]) e1 A.1
  have e6 : (Nat.toInt32 j).toNatClampNeg = j := by simp only [Int32.toNatClampNeg, len_toInt (Nat.lt_trans hj2 h31)]; rfl
  rw [e6] at e5
  exact e5.2
theorem own_csne {s : State} {args : Array Value} {t : Term} {v : Int32} (e : t.eval args s none [] s = some (.int v)) (h : (Cond.not (.eq t (.int 0))).value args s none s [] = some true) : ¬ (v = (0 : Int32)) := by
  have q := not_v h
  intro hv
  subst hv
  have q2 := Cond.eq_ints e (Term.int_eval (args := args) (first := s) (o := none) (idx := []) (s := s) 0)
  rw [q2] at q
  simp at q
theorem own_orref {s : State} {args : Array Value} {C f d : String} (h : (Cond.isRef (.static C f d)).value args s none s [] = some true) (hi : (Cond.initializedFor C f d).before args s = true ∨ ((Cond.initialized C).before args s = true ∧ (Cond.laysStatic C f d).before args s = true)) : (Sta s s.heap C f d .null) ∨ (∃ a, Sta s s.heap C f d (.ref a)) := by
  obtain ⟨x, e, hr⟩ := isR_v h
  rcases ref_cases hr with rfl | ⟨a, rfl⟩
  · exact Or.inl (Sta.start e hi)
  · exact Or.inr ⟨a, Sta.start e hi⟩
def own_St (Z : State) (A : Nat → Addr) (K : Nat → ClassId) (cs : Int32) : Prop := ((Sta Z Z.heap "java/lang/String" "COMPACT_STRINGS" "Z" (.int cs)) ∧ (¬ (cs = (0 : Int32))) ∧ ((Sta Z Z.heap "jdk/internal/util/Preconditions" "SIOOBE_FORMATTER" "Ljava/util/function/BiFunction;" .null) ∨ (∃ a, Sta Z Z.heap "jdk/internal/util/Preconditions" "SIOOBE_FORMATTER" "Ljava/util/function/BiFunction;" (.ref a))) ∧ True) ∧ True
theorem own_d_jdk_42_method_154_code_0 : decode jdk_42_method_154_code 0 = .ok (.getstatic 38, 3) := by decide +kernel
theorem own_d_jdk_42_method_154_code_3 : decode jdk_42_method_154_code 3 = .ok (.ifCond .eq 14, 3) := by decide +kernel
theorem own_d_jdk_42_method_154_code_6 : decode jdk_42_method_154_code 6 = .ok (.aload_n 0, 1) := by decide +kernel
theorem own_d_jdk_42_method_154_code_7 : decode jdk_42_method_154_code 7 = .ok (.getfield 15, 3) := by decide +kernel
theorem own_d_jdk_42_method_154_code_10 : decode jdk_42_method_154_code 10 = .ok (.ifCond .ne 7, 3) := by decide +kernel
theorem own_d_jdk_42_method_154_code_13 : decode jdk_42_method_154_code 13 = .ok (.iconst 1, 1) := by decide +kernel
theorem own_d_jdk_42_method_154_code_14 : decode jdk_42_method_154_code 14 = .ok (.goto 4, 3) := by decide +kernel
theorem own_d_jdk_42_method_154_code_18 : decode jdk_42_method_154_code 18 = .ok (.ireturn, 1) := by decide +kernel
theorem own_pn0 : plainName "java/lang/String" = true := by first | (simp [plainName, overriddenIn]; done) | decide +kernel
theorem own_ef_rm2 (m : MethodId) (p1 : Int32) (p2 : Int32) (p3 : Int32) (A : Nat → Addr) (K : Nat → ClassId) (cs : Int32)  (sa1 : Addr) : entryFrame m #[(.ref sa1)] 1 = mkF m 0 #[.val (.ref sa1)] [] := by first | (simp [entryFrame, mkF, argsToLocals, Value.category, maxLocals]; done) | rfl
set_option maxRecDepth 65536 in
set_option maxHeartbeats 40000000 in
theorem rm2 (l : Launch) (Z : State) (a0 : Array Value) (hw : ∀ d ∈ tables_1, d.before a0 Z = true) (ws : List Jvm.Cond) (h0 : Heap) (n0 : Nat) (p1 : Int32) (p2 : Int32) (p3 : Int32) (A : Nat → Addr) (K : Nat → ClassId) (cs : Int32)  (sa1 : Addr) (EN : own_St Z A K cs) (OL0 : Old Z n0 h0) (G_F_sa1_java_lang_String_coder : Fld Z h0 sa1 "java/lang/String" "coder" "B" (.int (0 : Int32))) :
    MetFree l own_m3 (head1 (Jvm.Cond.code own_m3 jdk_42_method_154_code 1 (some .boolean) :: ws) ({ frames := 0, cells := 0, slots := 0, locals := 0 } : Room)) (fun a U => a = #[(.ref sa1)] ∧ Z.Warmed39 U.vm ∧ U.heap = h0) (fun _ _ _ _ _ => True) (fun _ U o U' => ∃ v L, o = .returned v ∧ (PQ (some (.int (1 : Int32))) h0 n0) v U'.heap L ∧ FrameEnd U o U' L ({ frames := 0, cells := 0, slots := 0, locals := 0 } : Room).cells ({ frames := 0, cells := 0, slots := 0, locals := 0 } : Room).slots) := by
  refine MetFree.of_bodySF (plainFor_of_name own_pn0) hisR ?_
  intro p e s m args below meth c s₁ Bd hml0 hP hK
  obtain ⟨rfl, hZ, hh⟩ := hP
  have hx := Bd.exec
  have hby := Bd.bytes
  have hml : c.maxLocals = 1 := hml0
  have hown : s.vm.findClass "java/lang/String" = some m.cls := findClass_of_methodNamed Bd.named
  have hnm := (name_of_methodNamed Bd.named Bd.method).1
  have X0 : Stand p l e ({ frames := 0, cells := 0, slots := 0, locals := 0 } : Room) s m #[(.ref sa1)] below meth c s₁ [] 0 0 := Stand.of_body Bd
  have e0 : s₁.heap = h0 := by rw [← hh, Bd.state]; rfl
  have N0 := Fr.nil n0
  have pre0 : ∀ t, Steps p.tables e below (s₁.setTop (mkF m 0 #[.val (.ref sa1)] [])) t → Steps p.tables e below (s₁.setTop (entryFrame m #[(.ref sa1)] 1)) t := fun t k => castTop (own_ef_rm2 m p1 p2 p3 A K cs sa1) k
  have KK0 : Keep h0 h0 [] := Keep.refl _ _
  obtain ⟨T2, X2, e2, st2⟩ := getS2 X0 hx hZ hown (host := "") (Or.inl (hw _ (List.mem_of_getElem? (i := 19) rfl))) Via.refl e0 (EN.1.1.ext OL0.2) (g := (mkF m 0 #[.val (.ref sa1)] [])) rfl (hb hby own_d_jdk_42_method_154_code_0)
  obtain ⟨T3, X3, e3, st3⟩ := getF X2 hx hZ hown (host := "") (Or.inl (hw _ (List.mem_of_getElem? (i := 20) rfl))) Via.refl e2 G_F_sa1_java_lang_String_coder (g := (mkF m 7 #[.val (.ref sa1)] [(.ref sa1)])) rfl rfl (hb hby own_d_jdk_42_method_154_code_7)
  obtain ⟨fs, hr, hrun, hended, hW, hsame⟩ := X3.leave (v := some (.int (1 : Int32))) (fun h => by rw [Bd.returns] at h; cases h)
  refine ⟨_, _, pre0 _ ?_, hrun, hended, _, _, rfl, ?_, ⟨_, rfl⟩, hW, hsame.mono (by decide) (by decide)⟩
  · show Steps p.tables e below (s₁.setTop (mkF m 0 #[.val (.ref sa1)] [])) _
    refine st2 _ ?_
    show Steps p.tables e below (T2.setTop (mkF m 3 #[.val (.ref sa1)] [(.int cs)])) _
    refine XS.ifNo X2.here hx rfl (hb hby own_d_jdk_42_method_154_code_3) rfl ((if0 _ _).trans (feq EN.1.2.1).1) ?_
    show Steps p.tables e below (T2.setTop (mkF m 6 #[.val (.ref sa1)] [])) _
    refine XS.aloadN X2.here hx rfl (hb hby own_d_jdk_42_method_154_code_6) rfl rfl ?_
    show Steps p.tables e below (T2.setTop (mkF m 7 #[.val (.ref sa1)] [(.ref sa1)])) _
    refine st3 _ ?_
    show Steps p.tables e below (T3.setTop (mkF m 10 #[.val (.ref sa1)] [(.int (0 : Int32))])) _
    refine XS.ifNo X3.here hx rfl (hb hby own_d_jdk_42_method_154_code_10) rfl ((if0 _ _).trans (teq (by decide : (0 : Int32) = (0 : Int32))).2) ?_
    show Steps p.tables e below (T3.setTop (mkF m 13 #[.val (.ref sa1)] [])) _
    refine XS.iconst X3.here hx rfl (hb hby own_d_jdk_42_method_154_code_13) ?_
    show Steps p.tables e below (T3.setTop (mkF m 14 #[.val (.ref sa1)] [(.int (1 : Int32))])) _
    refine XS.goto X3.here hx rfl (pc0 := 14) (pc' := 18) rfl (hb hby own_d_jdk_42_method_154_code_14) (by decide) (by decide) ?_
    show Steps p.tables e below (T3.setTop (mkF m 18 #[.val (.ref sa1)] [(.int (1 : Int32))])) _
    exact retN X3 hx (t := .boolean) Bd.returns (by simp) (hb hby own_d_jdk_42_method_154_code_18) hr
  · show PQ (some (.int (1 : Int32))) h0 n0 _ T3.heap _
    rw [e3]
    exact ⟨rfl, N0, rfl⟩
theorem own_d_jdk_41_method_11_code_0 : decode jdk_41_method_11_code 0 = .ok (.iload_n 0, 1) := by decide +kernel
theorem own_d_jdk_41_method_11_code_1 : decode jdk_41_method_11_code 1 = .ok (.ifCond .lt 8, 3) := by decide +kernel
theorem own_d_jdk_41_method_11_code_4 : decode jdk_41_method_11_code 4 = .ok (.iload_n 0, 1) := by decide +kernel
theorem own_d_jdk_41_method_11_code_5 : decode jdk_41_method_11_code 5 = .ok (.iload_n 1, 1) := by decide +kernel
theorem own_d_jdk_41_method_11_code_6 : decode jdk_41_method_11_code 6 = .ok (.if_icmp .lt 10, 3) := by decide +kernel
theorem own_d_jdk_41_method_11_code_16 : decode jdk_41_method_11_code 16 = .ok (.iload_n 0, 1) := by decide +kernel
theorem own_d_jdk_41_method_11_code_17 : decode jdk_41_method_11_code 17 = .ok (.ireturn, 1) := by decide +kernel
theorem own_pn1 : plainName "jdk/internal/util/Preconditions" = true := by first | (simp [plainName, overriddenIn]; done) | decide +kernel
theorem own_ef_rm5 (m : MethodId) (p1 : Int32) (p2 : Int32) (p3 : Int32) (A : Nat → Addr) (K : Nat → ClassId) (cs : Int32)  : entryFrame m #[(.int ((p2 &&& (2147483647 : Int32)) % (22 : Int32))), (.int (22 : Int32)), .null] 3 = mkF m 0 #[.val (.int ((p2 &&& (2147483647 : Int32)) % (22 : Int32))), .val (.int (22 : Int32)), .val .null] [] := by first | (simp [entryFrame, mkF, argsToLocals, Value.category, maxLocals]; done) | rfl
set_option maxRecDepth 65536 in
set_option maxHeartbeats 40000000 in
theorem rm5 (l : Launch) (Z : State) (a0 : Array Value) (hw : ∀ d ∈ tables_1, d.before a0 Z = true) (ws : List Jvm.Cond) (h0 : Heap) (n0 : Nat) (p1 : Int32) (p2 : Int32) (p3 : Int32) (A : Nat → Addr) (K : Nat → ClassId) (cs : Int32)  (EN : own_St Z A K cs) (OL0 : Old Z n0 h0) :
    MetFree l own_m0 (head1 (Jvm.Cond.code own_m0 jdk_41_method_11_code 3 (some .int) :: ws) ({ frames := 0, cells := 0, slots := 0, locals := 0 } : Room)) (fun a U => a = #[(.int ((p2 &&& (2147483647 : Int32)) % (22 : Int32))), (.int (22 : Int32)), .null] ∧ Z.Warmed39 U.vm ∧ U.heap = h0) (fun _ _ _ _ _ => True) (fun _ U o U' => ∃ v L, o = .returned v ∧ (PQ (some (.int ((p2 &&& (2147483647 : Int32)) % (22 : Int32)))) h0 n0) v U'.heap L ∧ FrameEnd U o U' L ({ frames := 0, cells := 0, slots := 0, locals := 0 } : Room).cells ({ frames := 0, cells := 0, slots := 0, locals := 0 } : Room).slots) := by
  refine MetFree.of_bodySF (plainFor_of_name own_pn1) hisR ?_
  intro p e s m args below meth c s₁ Bd hml0 hP hK
  obtain ⟨rfl, hZ, hh⟩ := hP
  have hx := Bd.exec
  have hby := Bd.bytes
  have hml : c.maxLocals = 3 := hml0
  have hown : s.vm.findClass "jdk/internal/util/Preconditions" = some m.cls := findClass_of_methodNamed Bd.named
  have hnm := (name_of_methodNamed Bd.named Bd.method).1
  have X0 : Stand p l e ({ frames := 0, cells := 0, slots := 0, locals := 0 } : Room) s m #[(.int ((p2 &&& (2147483647 : Int32)) % (22 : Int32))), (.int (22 : Int32)), .null] below meth c s₁ [] 0 0 := Stand.of_body Bd
  have e0 : s₁.heap = h0 := by rw [← hh, Bd.state]; rfl
  have N0 := Fr.nil n0
  have pre0 : ∀ t, Steps p.tables e below (s₁.setTop (mkF m 0 #[.val (.int ((p2 &&& (2147483647 : Int32)) % (22 : Int32))), .val (.int (22 : Int32)), .val .null] [])) t → Steps p.tables e below (s₁.setTop (entryFrame m #[(.int ((p2 &&& (2147483647 : Int32)) % (22 : Int32))), (.int (22 : Int32)), .null] 3)) t := fun t k => castTop (own_ef_rm5 m p1 p2 p3 A K cs ) k
  have KK0 : Keep h0 h0 [] := Keep.refl _ _
  obtain ⟨fs, hr, hrun, hended, hW, hsame⟩ := X0.leave (v := some (.int ((p2 &&& (2147483647 : Int32)) % (22 : Int32)))) (fun h => by rw [Bd.returns] at h; cases h)
  refine ⟨_, _, pre0 _ ?_, hrun, hended, _, _, rfl, ?_, ⟨_, rfl⟩, hW, hsame.mono (by decide) (by decide)⟩
  · show Steps p.tables e below (s₁.setTop (mkF m 0 #[.val (.int ((p2 &&& (2147483647 : Int32)) % (22 : Int32))), .val (.int (22 : Int32)), .val .null] [])) _
    refine XS.iloadN X0.here hx rfl (hb hby own_d_jdk_41_method_11_code_0) rfl ?_
    show Steps p.tables e below (s₁.setTop (mkF m 1 #[.val (.int ((p2 &&& (2147483647 : Int32)) % (22 : Int32))), .val (.int (22 : Int32)), .val .null] [(.int ((p2 &&& (2147483647 : Int32)) % (22 : Int32)))])) _
    refine XS.ifNo X0.here hx rfl (hb hby own_d_jdk_41_method_11_code_1) rfl ((if0 _ _).trans (flt (own_lo22 p2)).1) ?_
    show Steps p.tables e below (s₁.setTop (mkF m 4 #[.val (.int ((p2 &&& (2147483647 : Int32)) % (22 : Int32))), .val (.int (22 : Int32)), .val .null] [])) _
    refine XS.iloadN X0.here hx rfl (hb hby own_d_jdk_41_method_11_code_4) rfl ?_
    show Steps p.tables e below (s₁.setTop (mkF m 5 #[.val (.int ((p2 &&& (2147483647 : Int32)) % (22 : Int32))), .val (.int (22 : Int32)), .val .null] [(.int ((p2 &&& (2147483647 : Int32)) % (22 : Int32)))])) _
    refine XS.iloadN X0.here hx rfl (hb hby own_d_jdk_41_method_11_code_5) rfl ?_
    show Steps p.tables e below (s₁.setTop (mkF m 6 #[.val (.int ((p2 &&& (2147483647 : Int32)) % (22 : Int32))), .val (.int (22 : Int32)), .val .null] [(.int (22 : Int32)), (.int ((p2 &&& (2147483647 : Int32)) % (22 : Int32)))])) _
    refine XS.icmpYes X0.here hx rfl (pc0 := 6) (pc' := 16) rfl (hb hby own_d_jdk_41_method_11_code_6) rfl (tlt (own_hi22 p2)).1 (by decide) (by decide) ?_
    show Steps p.tables e below (s₁.setTop (mkF m 16 #[.val (.int ((p2 &&& (2147483647 : Int32)) % (22 : Int32))), .val (.int (22 : Int32)), .val .null] [])) _
    refine XS.iloadN X0.here hx rfl (hb hby own_d_jdk_41_method_11_code_16) rfl ?_
    show Steps p.tables e below (s₁.setTop (mkF m 17 #[.val (.int ((p2 &&& (2147483647 : Int32)) % (22 : Int32))), .val (.int (22 : Int32)), .val .null] [(.int ((p2 &&& (2147483647 : Int32)) % (22 : Int32)))])) _
    exact retI X0 hx Bd.returns (hb hby own_d_jdk_41_method_11_code_17) hr
  · show PQ (some (.int ((p2 &&& (2147483647 : Int32)) % (22 : Int32)))) h0 n0 _ s₁.heap _
    rw [e0]
    exact ⟨rfl, N0, rfl⟩
theorem own_ef_rm6 (m : MethodId) (p1 : Int32) (p2 : Int32) (p3 : Int32) (A : Nat → Addr) (K : Nat → ClassId) (cs : Int32)  (af8 : Addr) : entryFrame m #[(.int ((p2 &&& (2147483647 : Int32)) % (22 : Int32))), (.int (22 : Int32)), (.ref af8)] 3 = mkF m 0 #[.val (.int ((p2 &&& (2147483647 : Int32)) % (22 : Int32))), .val (.int (22 : Int32)), .val (.ref af8)] [] := by first | (simp [entryFrame, mkF, argsToLocals, Value.category, maxLocals]; done) | rfl
set_option maxRecDepth 65536 in
set_option maxHeartbeats 40000000 in
theorem rm6 (l : Launch) (Z : State) (a0 : Array Value) (hw : ∀ d ∈ tables_1, d.before a0 Z = true) (ws : List Jvm.Cond) (h0 : Heap) (n0 : Nat) (p1 : Int32) (p2 : Int32) (p3 : Int32) (A : Nat → Addr) (K : Nat → ClassId) (cs : Int32)  (af8 : Addr) (EN : own_St Z A K cs) (OL0 : Old Z n0 h0) :
    MetFree l own_m0 (head1 (Jvm.Cond.code own_m0 jdk_41_method_11_code 3 (some .int) :: ws) ({ frames := 0, cells := 0, slots := 0, locals := 0 } : Room)) (fun a U => a = #[(.int ((p2 &&& (2147483647 : Int32)) % (22 : Int32))), (.int (22 : Int32)), (.ref af8)] ∧ Z.Warmed39 U.vm ∧ U.heap = h0) (fun _ _ _ _ _ => True) (fun _ U o U' => ∃ v L, o = .returned v ∧ (PQ (some (.int ((p2 &&& (2147483647 : Int32)) % (22 : Int32)))) h0 n0) v U'.heap L ∧ FrameEnd U o U' L ({ frames := 0, cells := 0, slots := 0, locals := 0 } : Room).cells ({ frames := 0, cells := 0, slots := 0, locals := 0 } : Room).slots) := by
  refine MetFree.of_bodySF (plainFor_of_name own_pn1) hisR ?_
  intro p e s m args below meth c s₁ Bd hml0 hP hK
  obtain ⟨rfl, hZ, hh⟩ := hP
  have hx := Bd.exec
  have hby := Bd.bytes
  have hml : c.maxLocals = 3 := hml0
  have hown : s.vm.findClass "jdk/internal/util/Preconditions" = some m.cls := findClass_of_methodNamed Bd.named
  have hnm := (name_of_methodNamed Bd.named Bd.method).1
  have X0 : Stand p l e ({ frames := 0, cells := 0, slots := 0, locals := 0 } : Room) s m #[(.int ((p2 &&& (2147483647 : Int32)) % (22 : Int32))), (.int (22 : Int32)), (.ref af8)] below meth c s₁ [] 0 0 := Stand.of_body Bd
  have e0 : s₁.heap = h0 := by rw [← hh, Bd.state]; rfl
  have N0 := Fr.nil n0
  have pre0 : ∀ t, Steps p.tables e below (s₁.setTop (mkF m 0 #[.val (.int ((p2 &&& (2147483647 : Int32)) % (22 : Int32))), .val (.int (22 : Int32)), .val (.ref af8)] [])) t → Steps p.tables e below (s₁.setTop (entryFrame m #[(.int ((p2 &&& (2147483647 : Int32)) % (22 : Int32))), (.int (22 : Int32)), (.ref af8)] 3)) t := fun t k => castTop (own_ef_rm6 m p1 p2 p3 A K cs af8) k
  have KK0 : Keep h0 h0 [] := Keep.refl _ _
  obtain ⟨fs, hr, hrun, hended, hW, hsame⟩ := X0.leave (v := some (.int ((p2 &&& (2147483647 : Int32)) % (22 : Int32)))) (fun h => by rw [Bd.returns] at h; cases h)
  refine ⟨_, _, pre0 _ ?_, hrun, hended, _, _, rfl, ?_, ⟨_, rfl⟩, hW, hsame.mono (by decide) (by decide)⟩
  · show Steps p.tables e below (s₁.setTop (mkF m 0 #[.val (.int ((p2 &&& (2147483647 : Int32)) % (22 : Int32))), .val (.int (22 : Int32)), .val (.ref af8)] [])) _
    refine XS.iloadN X0.here hx rfl (hb hby own_d_jdk_41_method_11_code_0) rfl ?_
    show Steps p.tables e below (s₁.setTop (mkF m 1 #[.val (.int ((p2 &&& (2147483647 : Int32)) % (22 : Int32))), .val (.int (22 : Int32)), .val (.ref af8)] [(.int ((p2 &&& (2147483647 : Int32)) % (22 : Int32)))])) _
    refine XS.ifNo X0.here hx rfl (hb hby own_d_jdk_41_method_11_code_1) rfl ((if0 _ _).trans (flt (own_lo22 p2)).1) ?_
    show Steps p.tables e below (s₁.setTop (mkF m 4 #[.val (.int ((p2 &&& (2147483647 : Int32)) % (22 : Int32))), .val (.int (22 : Int32)), .val (.ref af8)] [])) _
    refine XS.iloadN X0.here hx rfl (hb hby own_d_jdk_41_method_11_code_4) rfl ?_
    show Steps p.tables e below (s₁.setTop (mkF m 5 #[.val (.int ((p2 &&& (2147483647 : Int32)) % (22 : Int32))), .val (.int (22 : Int32)), .val (.ref af8)] [(.int ((p2 &&& (2147483647 : Int32)) % (22 : Int32)))])) _
    refine XS.iloadN X0.here hx rfl (hb hby own_d_jdk_41_method_11_code_5) rfl ?_
    show Steps p.tables e below (s₁.setTop (mkF m 6 #[.val (.int ((p2 &&& (2147483647 : Int32)) % (22 : Int32))), .val (.int (22 : Int32)), .val (.ref af8)] [(.int (22 : Int32)), (.int ((p2 &&& (2147483647 : Int32)) % (22 : Int32)))])) _
    refine XS.icmpYes X0.here hx rfl (pc0 := 6) (pc' := 16) rfl (hb hby own_d_jdk_41_method_11_code_6) rfl (tlt (own_hi22 p2)).1 (by decide) (by decide) ?_
    show Steps p.tables e below (s₁.setTop (mkF m 16 #[.val (.int ((p2 &&& (2147483647 : Int32)) % (22 : Int32))), .val (.int (22 : Int32)), .val (.ref af8)] [])) _
    refine XS.iloadN X0.here hx rfl (hb hby own_d_jdk_41_method_11_code_16) rfl ?_
    show Steps p.tables e below (s₁.setTop (mkF m 17 #[.val (.int ((p2 &&& (2147483647 : Int32)) % (22 : Int32))), .val (.int (22 : Int32)), .val (.ref af8)] [(.int ((p2 &&& (2147483647 : Int32)) % (22 : Int32)))])) _
    exact retI X0 hx Bd.returns (hb hby own_d_jdk_41_method_11_code_17) hr
  · show PQ (some (.int ((p2 &&& (2147483647 : Int32)) % (22 : Int32)))) h0 n0 _ s₁.heap _
    rw [e0]
    exact ⟨rfl, N0, rfl⟩
theorem own_d_jdk_42_method_155_code_0 : decode jdk_42_method_155_code 0 = .ok (.iload_n 0, 1) := by decide +kernel
theorem own_d_jdk_42_method_155_code_1 : decode jdk_42_method_155_code 1 = .ok (.iload_n 1, 1) := by decide +kernel
theorem own_d_jdk_42_method_155_code_2 : decode jdk_42_method_155_code 2 = .ok (.getstatic 1053, 3) := by decide +kernel
theorem own_d_jdk_42_method_155_code_5 : decode jdk_42_method_155_code 5 = .ok (.invokestatic 1059, 3) := by decide +kernel
theorem own_d_jdk_42_method_155_code_8 : decode jdk_42_method_155_code 8 = .ok (.pop, 1) := by decide +kernel
theorem own_d_jdk_42_method_155_code_9 : decode jdk_42_method_155_code 9 = .ok (.return_, 1) := by decide +kernel
theorem own_ef_rm4 (m : MethodId) (p1 : Int32) (p2 : Int32) (p3 : Int32) (A : Nat → Addr) (K : Nat → ClassId) (cs : Int32)  : entryFrame m #[(.int ((p2 &&& (2147483647 : Int32)) % (22 : Int32))), (.int (22 : Int32))] 2 = mkF m 0 #[.val (.int ((p2 &&& (2147483647 : Int32)) % (22 : Int32))), .val (.int (22 : Int32))] [] := by first | (simp [entryFrame, mkF, argsToLocals, Value.category, maxLocals]; done) | rfl
set_option maxRecDepth 65536 in
set_option maxHeartbeats 40000000 in
theorem rm4 (l : Launch) (Z : State) (a0 : Array Value) (hw : ∀ d ∈ tables_1, d.before a0 Z = true) (ws : List Jvm.Cond) (h0 : Heap) (n0 : Nat) (p1 : Int32) (p2 : Int32) (p3 : Int32) (A : Nat → Addr) (K : Nat → ClassId) (cs : Int32)  (EN : own_St Z A K cs) (OL0 : Old Z n0 h0) :
    MetFree l own_m4 (head1 (Jvm.Cond.code own_m4 jdk_42_method_155_code 2 none :: ws) ({ frames := 1, cells := 0, slots := 0, locals := 14 } : Room)) (fun a U => a = #[(.int ((p2 &&& (2147483647 : Int32)) % (22 : Int32))), (.int (22 : Int32))] ∧ Z.Warmed39 U.vm ∧ U.heap = h0) (fun _ _ _ _ _ => True) (fun _ U o U' => ∃ v L, o = .returned v ∧ (PQ none h0 n0) v U'.heap L ∧ FrameEnd U o U' L ({ frames := 1, cells := 0, slots := 0, locals := 14 } : Room).cells ({ frames := 1, cells := 0, slots := 0, locals := 14 } : Room).slots) := by
  refine MetFree.of_bodySF (plainFor_of_name own_pn0) hisR ?_
  intro p e s m args below meth c s₁ Bd hml0 hP hK
  obtain ⟨rfl, hZ, hh⟩ := hP
  have hx := Bd.exec
  have hby := Bd.bytes
  have hml : c.maxLocals = 2 := hml0
  have hown : s.vm.findClass "java/lang/String" = some m.cls := findClass_of_methodNamed Bd.named
  have hnm := (name_of_methodNamed Bd.named Bd.method).1
  have X0 : Stand p l e ({ frames := 1, cells := 0, slots := 0, locals := 14 } : Room) s m #[(.int ((p2 &&& (2147483647 : Int32)) % (22 : Int32))), (.int (22 : Int32))] below meth c s₁ [] 0 0 := Stand.of_body Bd
  have e0 : s₁.heap = h0 := by rw [← hh, Bd.state]; rfl
  have N0 := Fr.nil n0
  have pre0 : ∀ t, Steps p.tables e below (s₁.setTop (mkF m 0 #[.val (.int ((p2 &&& (2147483647 : Int32)) % (22 : Int32))), .val (.int (22 : Int32))] [])) t → Steps p.tables e below (s₁.setTop (entryFrame m #[(.int ((p2 &&& (2147483647 : Int32)) % (22 : Int32))), (.int (22 : Int32))] 2)) t := fun t k => castTop (own_ef_rm4 m p1 p2 p3 A K cs ) k
  have KK0 : Keep h0 h0 [] := Keep.refl _ _
  have pre7 : ∀ t, Steps p.tables e below (s₁.setTop (mkF m 2 #[.val (.int ((p2 &&& (2147483647 : Int32)) % (22 : Int32))), .val (.int (22 : Int32))] [(.int (22 : Int32)), (.int ((p2 &&& (2147483647 : Int32)) % (22 : Int32)))])) t → Steps p.tables e below (s₁.setTop (entryFrame m #[(.int ((p2 &&& (2147483647 : Int32)) % (22 : Int32))), (.int (22 : Int32))] 2)) t := fun t k => pre0 t (by
    show Steps p.tables e below (s₁.setTop (mkF m 0 #[.val (.int ((p2 &&& (2147483647 : Int32)) % (22 : Int32))), .val (.int (22 : Int32))] [])) _
    refine XS.iloadN X0.here hx rfl (hb hby own_d_jdk_42_method_155_code_0) rfl ?_
    show Steps p.tables e below (s₁.setTop (mkF m 1 #[.val (.int ((p2 &&& (2147483647 : Int32)) % (22 : Int32))), .val (.int (22 : Int32))] [(.int ((p2 &&& (2147483647 : Int32)) % (22 : Int32)))])) _
    refine XS.iloadN X0.here hx rfl (hb hby own_d_jdk_42_method_155_code_1) rfl ?_
    exact k)
  rcases EN.1.2.2.1 with SF8 | ⟨af8, SF8⟩
  · obtain ⟨T9, X9, e9, st9⟩ := getS2 X0 hx hZ hown (host := "") (Or.inl (hw _ (List.mem_of_getElem? (i := 29) rfl))) Via.refl e0 (SF8.ext OL0.2) (g := (mkF m 2 #[.val (.int ((p2 &&& (2147483647 : Int32)) % (22 : Int32))), .val (.int (22 : Int32))] [(.int (22 : Int32)), (.int ((p2 &&& (2147483647 : Int32)) % (22 : Int32)))])) rfl (hb hby own_d_jdk_42_method_155_code_2)
    obtain ⟨_, _, ⟨T10, L10, k10, n10⟩, -, X10, ⟨Lc10, hQ10, l10, y10, z10⟩, st10⟩ := Jvm.LawKit.callS X9 hx (y := own_m0) hown (mvT hZ (hw _ (List.mem_of_getElem? (i := 31) rfl))) (mvT hZ (hw _ (List.mem_of_getElem? (i := 32) rfl))) (mvT hZ (hw _ (List.mem_of_getElem? (i := 30) rfl))) (mvT hZ (hw _ (List.mem_of_getElem? (i := 33) rfl))) (by decide) (backOf (W := 0) (rm5 l Z a0 hw [] h0 n0 p1 p2 p3 A K cs EN OL0) hZ (hw _ (List.mem_of_getElem? (i := 33) rfl)) (hw _ (List.mem_of_getElem? (i := 30) rfl)) (by decide) (by decide)) (g := (mkF m 5 #[.val (.int ((p2 &&& (2147483647 : Int32)) % (22 : Int32))), .val (.int (22 : Int32))] [.null, (.int (22 : Int32)), (.int ((p2 &&& (2147483647 : Int32)) % (22 : Int32)))])) rfl (by rw [hml]; rfl) (argsL := [(.int ((p2 &&& (2147483647 : Int32)) % (22 : Int32))), (.int (22 : Int32)), .null]) (rest := []) (lenOf own_pd1 rfl) rfl (by show 2 * 0 + _ ≤ _; exact Nat.le_of_eq rfl) (hb hby own_d_jdk_42_method_155_code_5) (fun _ _ => ⟨rfl, e9, (by decide : 0 + 0 ≤ _), (by decide : 0 + 0 ≤ _)⟩)
    dsimp only [Pt.U, Pt.locs, Pt.cells, Pt.slots] at X10 l10 y10 z10 st10 hQ10
    subst l10 y10 z10
    obtain ⟨rfl, N10q, e10⟩ := hQ10
    have N10 := Fr.app N0 N10q
    obtain ⟨fs, hr, hrun, hended, hW, hsame⟩ := X10.leave (v := none) (fun _ => rfl)
    refine ⟨_, _, pre7 _ ?_, hrun, hended, _, _, rfl, ?_, ⟨_, rfl⟩, hW, hsame.mono (by decide) (by decide)⟩
    · show Steps p.tables e below (s₁.setTop (mkF m 2 #[.val (.int ((p2 &&& (2147483647 : Int32)) % (22 : Int32))), .val (.int (22 : Int32))] [(.int (22 : Int32)), (.int ((p2 &&& (2147483647 : Int32)) % (22 : Int32)))])) _
      refine st9 _ ?_
      show Steps p.tables e below (T9.setTop (mkF m 5 #[.val (.int ((p2 &&& (2147483647 : Int32)) % (22 : Int32))), .val (.int (22 : Int32))] [.null, (.int (22 : Int32)), (.int ((p2 &&& (2147483647 : Int32)) % (22 : Int32)))])) _
      refine st10 _ ?_
      show Steps p.tables e below (T10.setTop (mkF m 8 #[.val (.int ((p2 &&& (2147483647 : Int32)) % (22 : Int32))), .val (.int (22 : Int32))] [(.int ((p2 &&& (2147483647 : Int32)) % (22 : Int32)))])) _
      refine XS.pop X10.here hx rfl (hb hby own_d_jdk_42_method_155_code_8) rfl rfl ?_
      show Steps p.tables e below (T10.setTop (mkF m 9 #[.val (.int ((p2 &&& (2147483647 : Int32)) % (22 : Int32))), .val (.int (22 : Int32))] [])) _
      exact X10.returnOut hx Bd.returns (hb hby own_d_jdk_42_method_155_code_9) hr
    · show PQ none h0 n0 _ T10.heap _
      rw [e10]
      exact ⟨rfl, N10, rfl⟩
  · obtain ⟨T11, X11, e11, st11⟩ := getS2 X0 hx hZ hown (host := "") (Or.inl (hw _ (List.mem_of_getElem? (i := 29) rfl))) Via.refl e0 (SF8.ext OL0.2) (g := (mkF m 2 #[.val (.int ((p2 &&& (2147483647 : Int32)) % (22 : Int32))), .val (.int (22 : Int32))] [(.int (22 : Int32)), (.int ((p2 &&& (2147483647 : Int32)) % (22 : Int32)))])) rfl (hb hby own_d_jdk_42_method_155_code_2)
    obtain ⟨_, _, ⟨T12, L12, k12, n12⟩, -, X12, ⟨Lc12, hQ12, l12, y12, z12⟩, st12⟩ := Jvm.LawKit.callS X11 hx (y := own_m0) hown (mvT hZ (hw _ (List.mem_of_getElem? (i := 31) rfl))) (mvT hZ (hw _ (List.mem_of_getElem? (i := 32) rfl))) (mvT hZ (hw _ (List.mem_of_getElem? (i := 30) rfl))) (mvT hZ (hw _ (List.mem_of_getElem? (i := 33) rfl))) (by decide) (backOf (W := 0) (rm6 l Z a0 hw [] h0 n0 p1 p2 p3 A K cs af8 EN OL0) hZ (hw _ (List.mem_of_getElem? (i := 33) rfl)) (hw _ (List.mem_of_getElem? (i := 30) rfl)) (by decide) (by decide)) (g := (mkF m 5 #[.val (.int ((p2 &&& (2147483647 : Int32)) % (22 : Int32))), .val (.int (22 : Int32))] [(.ref af8), (.int (22 : Int32)), (.int ((p2 &&& (2147483647 : Int32)) % (22 : Int32)))])) rfl (by rw [hml]; rfl) (argsL := [(.int ((p2 &&& (2147483647 : Int32)) % (22 : Int32))), (.int (22 : Int32)), (.ref af8)]) (rest := []) (lenOf own_pd1 rfl) rfl (by show 2 * 0 + _ ≤ _; exact Nat.le_of_eq rfl) (hb hby own_d_jdk_42_method_155_code_5) (fun _ _ => ⟨rfl, e11, (by decide : 0 + 0 ≤ _), (by decide : 0 + 0 ≤ _)⟩)
    dsimp only [Pt.U, Pt.locs, Pt.cells, Pt.slots] at X12 l12 y12 z12 st12 hQ12
    subst l12 y12 z12
    obtain ⟨rfl, N12q, e12⟩ := hQ12
    have N12 := Fr.app N0 N12q
    obtain ⟨fs, hr, hrun, hended, hW, hsame⟩ := X12.leave (v := none) (fun _ => rfl)
    refine ⟨_, _, pre7 _ ?_, hrun, hended, _, _, rfl, ?_, ⟨_, rfl⟩, hW, hsame.mono (by decide) (by decide)⟩
    · show Steps p.tables e below (s₁.setTop (mkF m 2 #[.val (.int ((p2 &&& (2147483647 : Int32)) % (22 : Int32))), .val (.int (22 : Int32))] [(.int (22 : Int32)), (.int ((p2 &&& (2147483647 : Int32)) % (22 : Int32)))])) _
      refine st11 _ ?_
      show Steps p.tables e below (T11.setTop (mkF m 5 #[.val (.int ((p2 &&& (2147483647 : Int32)) % (22 : Int32))), .val (.int (22 : Int32))] [(.ref af8), (.int (22 : Int32)), (.int ((p2 &&& (2147483647 : Int32)) % (22 : Int32)))])) _
      refine st12 _ ?_
      show Steps p.tables e below (T12.setTop (mkF m 8 #[.val (.int ((p2 &&& (2147483647 : Int32)) % (22 : Int32))), .val (.int (22 : Int32))] [(.int ((p2 &&& (2147483647 : Int32)) % (22 : Int32)))])) _
      refine XS.pop X12.here hx rfl (hb hby own_d_jdk_42_method_155_code_8) rfl rfl ?_
      show Steps p.tables e below (T12.setTop (mkF m 9 #[.val (.int ((p2 &&& (2147483647 : Int32)) % (22 : Int32))), .val (.int (22 : Int32))] [])) _
      exact X12.returnOut hx Bd.returns (hb hby own_d_jdk_42_method_155_code_9) hr
    · show PQ none h0 n0 _ T12.heap _
      rw [e12]
      exact ⟨rfl, N12, rfl⟩
theorem own_d_jdk_43_method_2_code_0 : decode jdk_43_method_2_code 0 = .ok (.iload_n 1, 1) := by decide +kernel
theorem own_d_jdk_43_method_2_code_1 : decode jdk_43_method_2_code 1 = .ok (.aload_n 0, 1) := by decide +kernel
theorem own_d_jdk_43_method_2_code_2 : decode jdk_43_method_2_code 2 = .ok (.arraylength, 1) := by decide +kernel
theorem own_d_jdk_43_method_2_code_3 : decode jdk_43_method_2_code 3 = .ok (.invokestatic 9, 3) := by decide +kernel
theorem own_d_jdk_43_method_2_code_6 : decode jdk_43_method_2_code 6 = .ok (.aload_n 0, 1) := by decide +kernel
theorem own_d_jdk_43_method_2_code_7 : decode jdk_43_method_2_code 7 = .ok (.iload_n 1, 1) := by decide +kernel
theorem own_d_jdk_43_method_2_code_8 : decode jdk_43_method_2_code 8 = .ok (.baload, 1) := by decide +kernel
theorem own_d_jdk_43_method_2_code_9 : decode jdk_43_method_2_code 9 = .ok (.sipush 255, 3) := by decide +kernel
theorem own_d_jdk_43_method_2_code_12 : decode jdk_43_method_2_code 12 = .ok (.iand, 1) := by decide +kernel
theorem own_d_jdk_43_method_2_code_13 : decode jdk_43_method_2_code 13 = .ok (.i2c, 1) := by decide +kernel
theorem own_d_jdk_43_method_2_code_14 : decode jdk_43_method_2_code 14 = .ok (.ireturn, 1) := by decide +kernel
theorem own_pn2 : plainName "java/lang/StringLatin1" = true := by first | (simp [plainName, overriddenIn]; done) | decide +kernel
theorem own_ef_rm3 (m : MethodId) (p1 : Int32) (p2 : Int32) (p3 : Int32) (A : Nat → Addr) (K : Nat → ClassId) (cs : Int32)  (sb1 : Addr) (kc1 : ClassId) : entryFrame m #[(.ref sb1), (.int ((p2 &&& (2147483647 : Int32)) % (22 : Int32)))] 2 = mkF m 0 #[.val (.ref sb1), .val (.int ((p2 &&& (2147483647 : Int32)) % (22 : Int32)))] [] := by first | (simp [entryFrame, mkF, argsToLocals, Value.category, maxLocals]; done) | rfl
set_option maxRecDepth 65536 in
set_option maxHeartbeats 40000000 in
theorem rm3 (l : Launch) (Z : State) (a0 : Array Value) (hw : ∀ d ∈ tables_1, d.before a0 Z = true) (ws : List Jvm.Cond) (h0 : Heap) (n0 : Nat) (p1 : Int32) (p2 : Int32) (p3 : Int32) (A : Nat → Addr) (K : Nat → ClassId) (cs : Int32)  (sb1 : Addr) (kc1 : ClassId) (EN : own_St Z A K cs) (OL0 : Old Z n0 h0) (G_A_sb1 : Arv Z h0 sb1 kc1 .byte (22 : Int32) [(.int (48 : Int32)), (.int (49 : Int32)), (.int (50 : Int32)), (.int (51 : Int32)), (.int (52 : Int32)), (.int (53 : Int32)), (.int (54 : Int32)), (.int (55 : Int32)), (.int (56 : Int32)), (.int (57 : Int32)), (.int (97 : Int32)), (.int (98 : Int32)), (.int (99 : Int32)), (.int (100 : Int32)), (.int (101 : Int32)), (.int (102 : Int32)), (.int (65 : Int32)), (.int (66 : Int32)), (.int (67 : Int32)), (.int (68 : Int32)), (.int (69 : Int32)), (.int (70 : Int32))] (.int (0 : Int32))) :
    MetFree l own_m5 (head1 (Jvm.Cond.code own_m5 jdk_43_method_2_code 2 (some .char) :: ws) ({ frames := 2, cells := 0, slots := 0, locals := 27 } : Room)) (fun a U => a = #[(.ref sb1), (.int ((p2 &&& (2147483647 : Int32)) % (22 : Int32)))] ∧ Z.Warmed39 U.vm ∧ U.heap = h0) (fun _ _ _ _ _ => True) (fun _ U o U' => ∃ v L, o = .returned v ∧ (PQ (some (.int (nar .char (((own_tab0 ((p2 &&& (2147483647 : Int32)) % (22 : Int32))) &&& (255 : Int32)).toUInt32.toUInt16.toUInt32.toInt32)))) h0 n0) v U'.heap L ∧ FrameEnd U o U' L ({ frames := 2, cells := 0, slots := 0, locals := 27 } : Room).cells ({ frames := 2, cells := 0, slots := 0, locals := 27 } : Room).slots) := by
  refine MetFree.of_bodySF (plainFor_of_name own_pn2) hisR ?_
  intro p e s m args below meth c s₁ Bd hml0 hP hK
  obtain ⟨rfl, hZ, hh⟩ := hP
  have hx := Bd.exec
  have hby := Bd.bytes
  have hml : c.maxLocals = 2 := hml0
  have hown : s.vm.findClass "java/lang/StringLatin1" = some m.cls := findClass_of_methodNamed Bd.named
  have hnm := (name_of_methodNamed Bd.named Bd.method).1
  have X0 : Stand p l e ({ frames := 2, cells := 0, slots := 0, locals := 27 } : Room) s m #[(.ref sb1), (.int ((p2 &&& (2147483647 : Int32)) % (22 : Int32)))] below meth c s₁ [] 0 0 := Stand.of_body Bd
  have e0 : s₁.heap = h0 := by rw [← hh, Bd.state]; rfl
  have N0 := Fr.nil n0
  have pre0 : ∀ t, Steps p.tables e below (s₁.setTop (mkF m 0 #[.val (.ref sb1), .val (.int ((p2 &&& (2147483647 : Int32)) % (22 : Int32)))] [])) t → Steps p.tables e below (s₁.setTop (entryFrame m #[(.ref sb1), (.int ((p2 &&& (2147483647 : Int32)) % (22 : Int32)))] 2)) t := fun t k => castTop (own_ef_rm3 m p1 p2 p3 A K cs sb1 kc1) k
  have KK0 : Keep h0 h0 [] := Keep.refl _ _
  obtain ⟨cl6, Ar6, -, Sz6, Nn6, -, -⟩ := (id G_A_sb1)
  obtain ⟨_, _, ⟨T13, L13, k13, n13⟩, -, X13, ⟨Lc13, hQ13, l13, y13, z13⟩, st13⟩ := Jvm.LawKit.callS X0 hx (y := own_m4) hown (mvT hZ (hw _ (List.mem_of_getElem? (i := 26) rfl))) (mvT hZ (hw _ (List.mem_of_getElem? (i := 27) rfl))) (mvT hZ (hw _ (List.mem_of_getElem? (i := 1) rfl))) (mvT hZ (hw _ (List.mem_of_getElem? (i := 28) rfl))) (by decide) (backOf (W := 0) (rm4 l Z a0 hw [] h0 n0 p1 p2 p3 A K cs EN OL0) hZ (hw _ (List.mem_of_getElem? (i := 28) rfl)) (hw _ (List.mem_of_getElem? (i := 1) rfl)) (by decide) (by decide)) (g := (mkF m 3 #[.val (.ref sb1), .val (.int ((p2 &&& (2147483647 : Int32)) % (22 : Int32)))] [(.int (22 : Int32)), (.int ((p2 &&& (2147483647 : Int32)) % (22 : Int32)))])) rfl (by rw [hml]; rfl) (argsL := [(.int ((p2 &&& (2147483647 : Int32)) % (22 : Int32))), (.int (22 : Int32))]) (rest := []) (lenOf own_pd2 rfl) rfl (by show 2 * 0 + _ ≤ _; exact Nat.le_of_eq rfl) (hb hby own_d_jdk_43_method_2_code_3) (fun _ _ => ⟨rfl, e0, (by decide : 0 + 0 ≤ _), (by decide : 0 + 0 ≤ _)⟩)
  dsimp only [Pt.U, Pt.locs, Pt.cells, Pt.slots] at X13 l13 y13 z13 st13 hQ13
  subst l13 y13 z13
  obtain ⟨rfl, N13q, e13⟩ := hQ13
  have N13 := Fr.app N0 N13q
  obtain ⟨cl14, Ar14, q14, Sz14, Nn14, Hh14, Gg14⟩ := (id G_A_sb1)
  have hin14 : ¬ (((p2 &&& (2147483647 : Int32)) % (22 : Int32)) < 0 ∨ cl14.slots.size ≤ (((p2 &&& (2147483647 : Int32)) % (22 : Int32))).toNatClampNeg) := inb_of Sz14 ⟨(own_lo22 p2), (own_hi22 p2)⟩
  have hat14 : cl14.slots[(((p2 &&& (2147483647 : Int32)) % (22 : Int32))).toNatClampNeg]? = some (.int (own_tab0 ((p2 &&& (2147483647 : Int32)) % (22 : Int32)))) := Has.at Hh14 hin14 (own_tab0_at ((p2 &&& (2147483647 : Int32)) % (22 : Int32)))
  obtain ⟨fs, hr, hrun, hended, hW, hsame⟩ := X13.leave (v := some (.int (nar .char (((own_tab0 ((p2 &&& (2147483647 : Int32)) % (22 : Int32))) &&& (255 : Int32)).toUInt32.toUInt16.toUInt32.toInt32)))) (fun h => by rw [Bd.returns] at h; cases h)
  refine ⟨_, _, pre0 _ ?_, hrun, hended, _, _, rfl, ?_, ⟨_, rfl⟩, hW, hsame.mono (by decide) (by decide)⟩
  · show Steps p.tables e below (s₁.setTop (mkF m 0 #[.val (.ref sb1), .val (.int ((p2 &&& (2147483647 : Int32)) % (22 : Int32)))] [])) _
    refine XS.iloadN X0.here hx rfl (hb hby own_d_jdk_43_method_2_code_0) rfl ?_
    show Steps p.tables e below (s₁.setTop (mkF m 1 #[.val (.ref sb1), .val (.int ((p2 &&& (2147483647 : Int32)) % (22 : Int32)))] [(.int ((p2 &&& (2147483647 : Int32)) % (22 : Int32)))])) _
    refine XS.aloadN X0.here hx rfl (hb hby own_d_jdk_43_method_2_code_1) rfl rfl ?_
    show Steps p.tables e below (s₁.setTop (mkF m 2 #[.val (.ref sb1), .val (.int ((p2 &&& (2147483647 : Int32)) % (22 : Int32)))] [(.ref sb1), (.int ((p2 &&& (2147483647 : Int32)) % (22 : Int32)))])) _
    refine X0.arraylength hx (by rw [e0]; exact Ar6.1) (State.isArrayOf_alike hZ.alike Ar6.2.1) (g := (mkF m 2 #[.val (.ref sb1), .val (.int ((p2 &&& (2147483647 : Int32)) % (22 : Int32)))] [(.ref sb1), (.int ((p2 &&& (2147483647 : Int32)) % (22 : Int32)))])) rfl rfl (hb hby own_d_jdk_43_method_2_code_2) _ ?_
    rw [len_of Sz6 Nn6]
    show Steps p.tables e below (s₁.setTop (mkF m 3 #[.val (.ref sb1), .val (.int ((p2 &&& (2147483647 : Int32)) % (22 : Int32)))] [(.int (22 : Int32)), (.int ((p2 &&& (2147483647 : Int32)) % (22 : Int32)))])) _
    refine st13 _ ?_
    show Steps p.tables e below (T13.setTop (mkF m 6 #[.val (.ref sb1), .val (.int ((p2 &&& (2147483647 : Int32)) % (22 : Int32)))] [])) _
    refine XS.aloadN X13.here hx rfl (hb hby own_d_jdk_43_method_2_code_6) rfl rfl ?_
    show Steps p.tables e below (T13.setTop (mkF m 7 #[.val (.ref sb1), .val (.int ((p2 &&& (2147483647 : Int32)) % (22 : Int32)))] [(.ref sb1)])) _
    refine XS.iloadN X13.here hx rfl (hb hby own_d_jdk_43_method_2_code_7) rfl ?_
    show Steps p.tables e below (T13.setTop (mkF m 8 #[.val (.ref sb1), .val (.int ((p2 &&& (2147483647 : Int32)) % (22 : Int32)))] [(.int ((p2 &&& (2147483647 : Int32)) % (22 : Int32))), (.ref sb1)])) _
    refine X13.baloadBytes hx (j := ((p2 &&& (2147483647 : Int32)) % (22 : Int32))) (v := (.int (own_tab0 ((p2 &&& (2147483647 : Int32)) % (22 : Int32))))) (by rw [e13]; exact Ar14.1) (State.isArrayOf_alike hZ.alike Ar14.2.1) Ar14.2.2 hin14 hat14 (g := (mkF m 8 #[.val (.ref sb1), .val (.int ((p2 &&& (2147483647 : Int32)) % (22 : Int32)))] [(.int ((p2 &&& (2147483647 : Int32)) % (22 : Int32))), (.ref sb1)])) rfl rfl (hb hby own_d_jdk_43_method_2_code_8) _ ?_
    show Steps p.tables e below (T13.setTop (mkF m 9 #[.val (.ref sb1), .val (.int ((p2 &&& (2147483647 : Int32)) % (22 : Int32)))] [(.int (own_tab0 ((p2 &&& (2147483647 : Int32)) % (22 : Int32))))])) _
    refine XS.sipush X13.here hx rfl (hb hby own_d_jdk_43_method_2_code_9) ?_
    show Steps p.tables e below (T13.setTop (mkF m 12 #[.val (.ref sb1), .val (.int ((p2 &&& (2147483647 : Int32)) % (22 : Int32)))] [(.int (255 : Int32)), (.int (own_tab0 ((p2 &&& (2147483647 : Int32)) % (22 : Int32))))])) _
    refine XS.iand X13.here hx rfl (hb hby own_d_jdk_43_method_2_code_12) rfl ?_
    show Steps p.tables e below (T13.setTop (mkF m 13 #[.val (.ref sb1), .val (.int ((p2 &&& (2147483647 : Int32)) % (22 : Int32)))] [(.int ((own_tab0 ((p2 &&& (2147483647 : Int32)) % (22 : Int32))) &&& (255 : Int32)))])) _
    refine XS.i2c X13.here hx rfl (hb hby own_d_jdk_43_method_2_code_13) rfl ?_
    show Steps p.tables e below (T13.setTop (mkF m 14 #[.val (.ref sb1), .val (.int ((p2 &&& (2147483647 : Int32)) % (22 : Int32)))] [(.int (((own_tab0 ((p2 &&& (2147483647 : Int32)) % (22 : Int32))) &&& (255 : Int32)).toUInt32.toUInt16.toUInt32.toInt32))])) _
    exact retN X13 hx (t := .char) Bd.returns (by simp) (hb hby own_d_jdk_43_method_2_code_14) hr
  · show PQ (some (.int (nar .char (((own_tab0 ((p2 &&& (2147483647 : Int32)) % (22 : Int32))) &&& (255 : Int32)).toUInt32.toUInt16.toUInt32.toInt32)))) h0 n0 _ T13.heap _
    rw [e13]
    exact ⟨rfl, N13, rfl⟩
theorem own_d_jdk_42_method_56_code_0 : decode jdk_42_method_56_code 0 = .ok (.aload_n 0, 1) := by decide +kernel
theorem own_d_jdk_42_method_56_code_1 : decode jdk_42_method_56_code 1 = .ok (.invokevirtual 492, 3) := by decide +kernel
theorem own_d_jdk_42_method_56_code_4 : decode jdk_42_method_56_code 4 = .ok (.ifCond .eq 12, 3) := by decide +kernel
theorem own_d_jdk_42_method_56_code_7 : decode jdk_42_method_56_code 7 = .ok (.aload_n 0, 1) := by decide +kernel
theorem own_d_jdk_42_method_56_code_8 : decode jdk_42_method_56_code 8 = .ok (.getfield 9, 3) := by decide +kernel
theorem own_d_jdk_42_method_56_code_11 : decode jdk_42_method_56_code 11 = .ok (.iload_n 1, 1) := by decide +kernel
theorem own_d_jdk_42_method_56_code_12 : decode jdk_42_method_56_code 12 = .ok (.invokestatic 495, 3) := by decide +kernel
theorem own_d_jdk_42_method_56_code_15 : decode jdk_42_method_56_code 15 = .ok (.ireturn, 1) := by decide +kernel
theorem own_ef_rm1 (m : MethodId) (p1 : Int32) (p2 : Int32) (p3 : Int32) (A : Nat → Addr) (K : Nat → ClassId) (cs : Int32)  (sb1 : Addr) (sa1 : Addr) (kc1 : ClassId) : entryFrame m #[(.ref sa1), (.int ((p2 &&& (2147483647 : Int32)) % (22 : Int32)))] 2 = mkF m 0 #[.val (.ref sa1), .val (.int ((p2 &&& (2147483647 : Int32)) % (22 : Int32)))] [] := by first | (simp [entryFrame, mkF, argsToLocals, Value.category, maxLocals]; done) | rfl
set_option maxRecDepth 65536 in
set_option maxHeartbeats 40000000 in
theorem rm1 (l : Launch) (Z : State) (a0 : Array Value) (hw : ∀ d ∈ tables_1, d.before a0 Z = true) (ws : List Jvm.Cond) (h0 : Heap) (n0 : Nat) (p1 : Int32) (p2 : Int32) (p3 : Int32) (A : Nat → Addr) (K : Nat → ClassId) (cs : Int32)  (sb1 : Addr) (sa1 : Addr) (kc1 : ClassId) (EN : own_St Z A K cs) (OL0 : Old Z n0 h0) (G_E_sa1 : Exa Z h0 sa1 "java/lang/String") (G_F_sa1_java_lang_String_coder : Fld Z h0 sa1 "java/lang/String" "coder" "B" (.int (0 : Int32))) (G_F_sa1_java_lang_String_value : Fld Z h0 sa1 "java/lang/String" "value" "[B" (.ref sb1)) (G_A_sb1 : Arv Z h0 sb1 kc1 .byte (22 : Int32) [(.int (48 : Int32)), (.int (49 : Int32)), (.int (50 : Int32)), (.int (51 : Int32)), (.int (52 : Int32)), (.int (53 : Int32)), (.int (54 : Int32)), (.int (55 : Int32)), (.int (56 : Int32)), (.int (57 : Int32)), (.int (97 : Int32)), (.int (98 : Int32)), (.int (99 : Int32)), (.int (100 : Int32)), (.int (101 : Int32)), (.int (102 : Int32)), (.int (65 : Int32)), (.int (66 : Int32)), (.int (67 : Int32)), (.int (68 : Int32)), (.int (69 : Int32)), (.int (70 : Int32))] (.int (0 : Int32))) :
    MetFree l own_m2 (head1 (Jvm.Cond.code own_m2 jdk_42_method_56_code 2 (some .char) :: ws) ({ frames := 3, cells := 0, slots := 0, locals := 40 } : Room)) (fun a U => a = #[(.ref sa1), (.int ((p2 &&& (2147483647 : Int32)) % (22 : Int32)))] ∧ Z.Warmed39 U.vm ∧ U.heap = h0) (fun _ _ _ _ _ => True) (fun _ U o U' => ∃ v L, o = .returned v ∧ (PQ (some (.int (nar .char (nar .char (((own_tab0 ((p2 &&& (2147483647 : Int32)) % (22 : Int32))) &&& (255 : Int32)).toUInt32.toUInt16.toUInt32.toInt32))))) h0 n0) v U'.heap L ∧ FrameEnd U o U' L ({ frames := 3, cells := 0, slots := 0, locals := 40 } : Room).cells ({ frames := 3, cells := 0, slots := 0, locals := 40 } : Room).slots) := by
  refine MetFree.of_bodySF (plainFor_of_name own_pn0) hisR ?_
  intro p e s m args below meth c s₁ Bd hml0 hP hK
  obtain ⟨rfl, hZ, hh⟩ := hP
  have hx := Bd.exec
  have hby := Bd.bytes
  have hml : c.maxLocals = 2 := hml0
  have hown : s.vm.findClass "java/lang/String" = some m.cls := findClass_of_methodNamed Bd.named
  have hnm := (name_of_methodNamed Bd.named Bd.method).1
  have X0 : Stand p l e ({ frames := 3, cells := 0, slots := 0, locals := 40 } : Room) s m #[(.ref sa1), (.int ((p2 &&& (2147483647 : Int32)) % (22 : Int32)))] below meth c s₁ [] 0 0 := Stand.of_body Bd
  have e0 : s₁.heap = h0 := by rw [← hh, Bd.state]; rfl
  have N0 := Fr.nil n0
  have pre0 : ∀ t, Steps p.tables e below (s₁.setTop (mkF m 0 #[.val (.ref sa1), .val (.int ((p2 &&& (2147483647 : Int32)) % (22 : Int32)))] [])) t → Steps p.tables e below (s₁.setTop (entryFrame m #[(.ref sa1), (.int ((p2 &&& (2147483647 : Int32)) % (22 : Int32)))] 2)) t := fun t k => castTop (own_ef_rm1 m p1 p2 p3 A K cs sb1 sa1 kc1) k
  have KK0 : Keep h0 h0 [] := Keep.refl _ _
  obtain ⟨cq4, kq4, q4a, q4b, q4c⟩ := isOf hZ e0 G_E_sa1
  obtain ⟨_, _, ⟨T4, L4, k4, n4⟩, -, X4, ⟨Lc4, hQ4, l4, y4, z4⟩, st4⟩ := X0.virtualBack hx (y := own_m3) (z := own_m3) hown (mvT hZ (hw _ (List.mem_of_getElem? (i := 14) rfl))) (mvT hZ (hw _ (List.mem_of_getElem? (i := 15) rfl))) (notFace_of_selects (args := #[]) (mvT hZ (hw _ (List.mem_of_getElem? (i := 17) rfl)))) (mvT hZ (hw _ (List.mem_of_getElem? (i := 17) rfl))) (mvT hZ (hw _ (List.mem_of_getElem? (i := 16) rfl))) (by decide) (backOf (W := 0) (rm2 l Z a0 hw [] h0 n0 p1 p2 p3 A K cs sa1 EN OL0 G_F_sa1_java_lang_String_coder) hZ (hw _ (List.mem_of_getElem? (i := 18) rfl)) (hw _ (List.mem_of_getElem? (i := 1) rfl)) (by decide) (by decide)) q4a q4c (g := (mkF m 1 #[.val (.ref sa1), .val (.int ((p2 &&& (2147483647 : Int32)) % (22 : Int32)))] [(.ref sa1)])) rfl (by rw [hml]; rfl) (Steps.refl _) (argsL := []) (rest := []) (lenOf own_pd0 rfl) rfl (by show 2 * 0 + _ ≤ _; exact Nat.le_of_eq rfl) (hb hby own_d_jdk_42_method_56_code_1) (fun _ _ => ⟨rfl, e0, (by decide : 0 + 0 ≤ _), (by decide : 0 + 0 ≤ _)⟩)
  dsimp only [Pt.U, Pt.locs, Pt.cells, Pt.slots] at X4 l4 y4 z4 st4 hQ4
  subst l4 y4 z4
  obtain ⟨rfl, N4q, e4⟩ := hQ4
  have N4 := Fr.app N0 N4q
  obtain ⟨T5, X5, e5, st5⟩ := getF X4 hx hZ hown (host := "") (Or.inl (hw _ (List.mem_of_getElem? (i := 21) rfl))) Via.refl e4 G_F_sa1_java_lang_String_value (g := (mkF m 8 #[.val (.ref sa1), .val (.int ((p2 &&& (2147483647 : Int32)) % (22 : Int32)))] [(.ref sa1)])) rfl rfl (hb hby own_d_jdk_42_method_56_code_8)
  obtain ⟨_, _, ⟨T15, L15, k15, n15⟩, -, X15, ⟨Lc15, hQ15, l15, y15, z15⟩, st15⟩ := Jvm.LawKit.callS X5 hx (y := own_m5) hown (mvT hZ (hw _ (List.mem_of_getElem? (i := 22) rfl))) (mvT hZ (hw _ (List.mem_of_getElem? (i := 23) rfl))) (mvT hZ (hw _ (List.mem_of_getElem? (i := 24) rfl))) (mvT hZ (hw _ (List.mem_of_getElem? (i := 25) rfl))) (by decide) (backOf (W := 0) (rm3 l Z a0 hw [] h0 n0 p1 p2 p3 A K cs sb1 kc1 EN OL0 G_A_sb1) hZ (hw _ (List.mem_of_getElem? (i := 25) rfl)) (hw _ (List.mem_of_getElem? (i := 24) rfl)) (by decide) (by decide)) (g := (mkF m 12 #[.val (.ref sa1), .val (.int ((p2 &&& (2147483647 : Int32)) % (22 : Int32)))] [(.int ((p2 &&& (2147483647 : Int32)) % (22 : Int32))), (.ref sb1)])) rfl (by rw [hml]; rfl) (argsL := [(.ref sb1), (.int ((p2 &&& (2147483647 : Int32)) % (22 : Int32)))]) (rest := []) (lenOf own_pd3 rfl) rfl (by show 2 * 0 + _ ≤ _; exact Nat.le_of_eq rfl) (hb hby own_d_jdk_42_method_56_code_12) (fun _ _ => ⟨rfl, e5, (by decide : 0 + 0 ≤ _), (by decide : 0 + 0 ≤ _)⟩)
  dsimp only [Pt.U, Pt.locs, Pt.cells, Pt.slots] at X15 l15 y15 z15 st15 hQ15
  subst l15 y15 z15
  obtain ⟨rfl, N15q, e15⟩ := hQ15
  have N15 := Fr.app N4 N15q
  obtain ⟨fs, hr, hrun, hended, hW, hsame⟩ := X15.leave (v := some (.int (nar .char (nar .char (((own_tab0 ((p2 &&& (2147483647 : Int32)) % (22 : Int32))) &&& (255 : Int32)).toUInt32.toUInt16.toUInt32.toInt32))))) (fun h => by rw [Bd.returns] at h; cases h)
  refine ⟨_, _, pre0 _ ?_, hrun, hended, _, _, rfl, ?_, ⟨_, rfl⟩, hW, hsame.mono (by decide) (by decide)⟩
  · show Steps p.tables e below (s₁.setTop (mkF m 0 #[.val (.ref sa1), .val (.int ((p2 &&& (2147483647 : Int32)) % (22 : Int32)))] [])) _
    refine XS.aloadN X0.here hx rfl (hb hby own_d_jdk_42_method_56_code_0) rfl rfl ?_
    show Steps p.tables e below (s₁.setTop (mkF m 1 #[.val (.ref sa1), .val (.int ((p2 &&& (2147483647 : Int32)) % (22 : Int32)))] [(.ref sa1)])) _
    refine st4.trans ?_
    show Steps p.tables e below (T4.setTop (mkF m 4 #[.val (.ref sa1), .val (.int ((p2 &&& (2147483647 : Int32)) % (22 : Int32)))] [(.int (1 : Int32))])) _
    refine XS.ifNo X4.here hx rfl (hb hby own_d_jdk_42_method_56_code_4) rfl ((if0 _ _).trans (feq (by decide : ¬ ((1 : Int32) = (0 : Int32)))).1) ?_
    show Steps p.tables e below (T4.setTop (mkF m 7 #[.val (.ref sa1), .val (.int ((p2 &&& (2147483647 : Int32)) % (22 : Int32)))] [])) _
    refine XS.aloadN X4.here hx rfl (hb hby own_d_jdk_42_method_56_code_7) rfl rfl ?_
    show Steps p.tables e below (T4.setTop (mkF m 8 #[.val (.ref sa1), .val (.int ((p2 &&& (2147483647 : Int32)) % (22 : Int32)))] [(.ref sa1)])) _
    refine st5 _ ?_
    show Steps p.tables e below (T5.setTop (mkF m 11 #[.val (.ref sa1), .val (.int ((p2 &&& (2147483647 : Int32)) % (22 : Int32)))] [(.ref sb1)])) _
    refine XS.iloadN X5.here hx rfl (hb hby own_d_jdk_42_method_56_code_11) rfl ?_
    show Steps p.tables e below (T5.setTop (mkF m 12 #[.val (.ref sa1), .val (.int ((p2 &&& (2147483647 : Int32)) % (22 : Int32)))] [(.int ((p2 &&& (2147483647 : Int32)) % (22 : Int32))), (.ref sb1)])) _
    refine st15 _ ?_
    show Steps p.tables e below (T15.setTop (mkF m 15 #[.val (.ref sa1), .val (.int ((p2 &&& (2147483647 : Int32)) % (22 : Int32)))] [(.int (nar .char (((own_tab0 ((p2 &&& (2147483647 : Int32)) % (22 : Int32))) &&& (255 : Int32)).toUInt32.toUInt16.toUInt32.toInt32)))])) _
    exact retN X15 hx (t := .char) Bd.returns (by simp) (hb hby own_d_jdk_42_method_56_code_15) hr
  · show PQ (some (.int (nar .char (nar .char (((own_tab0 ((p2 &&& (2147483647 : Int32)) % (22 : Int32))) &&& (255 : Int32)).toUInt32.toUInt16.toUInt32.toInt32))))) h0 n0 _ T15.heap _
    rw [e15]
    exact ⟨rfl, N15, rfl⟩
theorem own_ef_rm10 (m : MethodId) (p1 : Int32) (p2 : Int32) (p3 : Int32) (A : Nat → Addr) (K : Nat → ClassId) (cs : Int32)  : entryFrame m #[(.int ((p3 &&& (2147483647 : Int32)) % (6 : Int32))), (.int (6 : Int32)), .null] 3 = mkF m 0 #[.val (.int ((p3 &&& (2147483647 : Int32)) % (6 : Int32))), .val (.int (6 : Int32)), .val .null] [] := by first | (simp [entryFrame, mkF, argsToLocals, Value.category, maxLocals]; done) | rfl
set_option maxRecDepth 65536 in
set_option maxHeartbeats 40000000 in
theorem rm10 (l : Launch) (Z : State) (a0 : Array Value) (hw : ∀ d ∈ tables_1, d.before a0 Z = true) (ws : List Jvm.Cond) (h0 : Heap) (n0 : Nat) (p1 : Int32) (p2 : Int32) (p3 : Int32) (A : Nat → Addr) (K : Nat → ClassId) (cs : Int32)  (EN : own_St Z A K cs) (OL0 : Old Z n0 h0) :
    MetFree l own_m0 (head1 (Jvm.Cond.code own_m0 jdk_41_method_11_code 3 (some .int) :: ws) ({ frames := 0, cells := 0, slots := 0, locals := 0 } : Room)) (fun a U => a = #[(.int ((p3 &&& (2147483647 : Int32)) % (6 : Int32))), (.int (6 : Int32)), .null] ∧ Z.Warmed39 U.vm ∧ U.heap = h0) (fun _ _ _ _ _ => True) (fun _ U o U' => ∃ v L, o = .returned v ∧ (PQ (some (.int ((p3 &&& (2147483647 : Int32)) % (6 : Int32)))) h0 n0) v U'.heap L ∧ FrameEnd U o U' L ({ frames := 0, cells := 0, slots := 0, locals := 0 } : Room).cells ({ frames := 0, cells := 0, slots := 0, locals := 0 } : Room).slots) := by
  refine MetFree.of_bodySF (plainFor_of_name own_pn1) hisR ?_
  intro p e s m args below meth c s₁ Bd hml0 hP hK
  obtain ⟨rfl, hZ, hh⟩ := hP
  have hx := Bd.exec
  have hby := Bd.bytes
  have hml : c.maxLocals = 3 := hml0
  have hown : s.vm.findClass "jdk/internal/util/Preconditions" = some m.cls := findClass_of_methodNamed Bd.named
  have hnm := (name_of_methodNamed Bd.named Bd.method).1
  have X0 : Stand p l e ({ frames := 0, cells := 0, slots := 0, locals := 0 } : Room) s m #[(.int ((p3 &&& (2147483647 : Int32)) % (6 : Int32))), (.int (6 : Int32)), .null] below meth c s₁ [] 0 0 := Stand.of_body Bd
  have e0 : s₁.heap = h0 := by rw [← hh, Bd.state]; rfl
  have N0 := Fr.nil n0
  have pre0 : ∀ t, Steps p.tables e below (s₁.setTop (mkF m 0 #[.val (.int ((p3 &&& (2147483647 : Int32)) % (6 : Int32))), .val (.int (6 : Int32)), .val .null] [])) t → Steps p.tables e below (s₁.setTop (entryFrame m #[(.int ((p3 &&& (2147483647 : Int32)) % (6 : Int32))), (.int (6 : Int32)), .null] 3)) t := fun t k => castTop (own_ef_rm10 m p1 p2 p3 A K cs ) k
  have KK0 : Keep h0 h0 [] := Keep.refl _ _
  obtain ⟨fs, hr, hrun, hended, hW, hsame⟩ := X0.leave (v := some (.int ((p3 &&& (2147483647 : Int32)) % (6 : Int32)))) (fun h => by rw [Bd.returns] at h; cases h)
  refine ⟨_, _, pre0 _ ?_, hrun, hended, _, _, rfl, ?_, ⟨_, rfl⟩, hW, hsame.mono (by decide) (by decide)⟩
  · show Steps p.tables e below (s₁.setTop (mkF m 0 #[.val (.int ((p3 &&& (2147483647 : Int32)) % (6 : Int32))), .val (.int (6 : Int32)), .val .null] [])) _
    refine XS.iloadN X0.here hx rfl (hb hby own_d_jdk_41_method_11_code_0) rfl ?_
    show Steps p.tables e below (s₁.setTop (mkF m 1 #[.val (.int ((p3 &&& (2147483647 : Int32)) % (6 : Int32))), .val (.int (6 : Int32)), .val .null] [(.int ((p3 &&& (2147483647 : Int32)) % (6 : Int32)))])) _
    refine XS.ifNo X0.here hx rfl (hb hby own_d_jdk_41_method_11_code_1) rfl ((if0 _ _).trans (flt (own_lo6 p3)).1) ?_
    show Steps p.tables e below (s₁.setTop (mkF m 4 #[.val (.int ((p3 &&& (2147483647 : Int32)) % (6 : Int32))), .val (.int (6 : Int32)), .val .null] [])) _
    refine XS.iloadN X0.here hx rfl (hb hby own_d_jdk_41_method_11_code_4) rfl ?_
    show Steps p.tables e below (s₁.setTop (mkF m 5 #[.val (.int ((p3 &&& (2147483647 : Int32)) % (6 : Int32))), .val (.int (6 : Int32)), .val .null] [(.int ((p3 &&& (2147483647 : Int32)) % (6 : Int32)))])) _
    refine XS.iloadN X0.here hx rfl (hb hby own_d_jdk_41_method_11_code_5) rfl ?_
    show Steps p.tables e below (s₁.setTop (mkF m 6 #[.val (.int ((p3 &&& (2147483647 : Int32)) % (6 : Int32))), .val (.int (6 : Int32)), .val .null] [(.int (6 : Int32)), (.int ((p3 &&& (2147483647 : Int32)) % (6 : Int32)))])) _
    refine XS.icmpYes X0.here hx rfl (pc0 := 6) (pc' := 16) rfl (hb hby own_d_jdk_41_method_11_code_6) rfl (tlt (own_hi6 p3)).1 (by decide) (by decide) ?_
    show Steps p.tables e below (s₁.setTop (mkF m 16 #[.val (.int ((p3 &&& (2147483647 : Int32)) % (6 : Int32))), .val (.int (6 : Int32)), .val .null] [])) _
    refine XS.iloadN X0.here hx rfl (hb hby own_d_jdk_41_method_11_code_16) rfl ?_
    show Steps p.tables e below (s₁.setTop (mkF m 17 #[.val (.int ((p3 &&& (2147483647 : Int32)) % (6 : Int32))), .val (.int (6 : Int32)), .val .null] [(.int ((p3 &&& (2147483647 : Int32)) % (6 : Int32)))])) _
    exact retI X0 hx Bd.returns (hb hby own_d_jdk_41_method_11_code_17) hr
  · show PQ (some (.int ((p3 &&& (2147483647 : Int32)) % (6 : Int32)))) h0 n0 _ s₁.heap _
    rw [e0]
    exact ⟨rfl, N0, rfl⟩
theorem own_ef_rm11 (m : MethodId) (p1 : Int32) (p2 : Int32) (p3 : Int32) (A : Nat → Addr) (K : Nat → ClassId) (cs : Int32)  (af23 : Addr) : entryFrame m #[(.int ((p3 &&& (2147483647 : Int32)) % (6 : Int32))), (.int (6 : Int32)), (.ref af23)] 3 = mkF m 0 #[.val (.int ((p3 &&& (2147483647 : Int32)) % (6 : Int32))), .val (.int (6 : Int32)), .val (.ref af23)] [] := by first | (simp [entryFrame, mkF, argsToLocals, Value.category, maxLocals]; done) | rfl
set_option maxRecDepth 65536 in
set_option maxHeartbeats 40000000 in
theorem rm11 (l : Launch) (Z : State) (a0 : Array Value) (hw : ∀ d ∈ tables_1, d.before a0 Z = true) (ws : List Jvm.Cond) (h0 : Heap) (n0 : Nat) (p1 : Int32) (p2 : Int32) (p3 : Int32) (A : Nat → Addr) (K : Nat → ClassId) (cs : Int32)  (af23 : Addr) (EN : own_St Z A K cs) (OL0 : Old Z n0 h0) :
    MetFree l own_m0 (head1 (Jvm.Cond.code own_m0 jdk_41_method_11_code 3 (some .int) :: ws) ({ frames := 0, cells := 0, slots := 0, locals := 0 } : Room)) (fun a U => a = #[(.int ((p3 &&& (2147483647 : Int32)) % (6 : Int32))), (.int (6 : Int32)), (.ref af23)] ∧ Z.Warmed39 U.vm ∧ U.heap = h0) (fun _ _ _ _ _ => True) (fun _ U o U' => ∃ v L, o = .returned v ∧ (PQ (some (.int ((p3 &&& (2147483647 : Int32)) % (6 : Int32)))) h0 n0) v U'.heap L ∧ FrameEnd U o U' L ({ frames := 0, cells := 0, slots := 0, locals := 0 } : Room).cells ({ frames := 0, cells := 0, slots := 0, locals := 0 } : Room).slots) := by
  refine MetFree.of_bodySF (plainFor_of_name own_pn1) hisR ?_
  intro p e s m args below meth c s₁ Bd hml0 hP hK
  obtain ⟨rfl, hZ, hh⟩ := hP
  have hx := Bd.exec
  have hby := Bd.bytes
  have hml : c.maxLocals = 3 := hml0
  have hown : s.vm.findClass "jdk/internal/util/Preconditions" = some m.cls := findClass_of_methodNamed Bd.named
  have hnm := (name_of_methodNamed Bd.named Bd.method).1
  have X0 : Stand p l e ({ frames := 0, cells := 0, slots := 0, locals := 0 } : Room) s m #[(.int ((p3 &&& (2147483647 : Int32)) % (6 : Int32))), (.int (6 : Int32)), (.ref af23)] below meth c s₁ [] 0 0 := Stand.of_body Bd
  have e0 : s₁.heap = h0 := by rw [← hh, Bd.state]; rfl
  have N0 := Fr.nil n0
  have pre0 : ∀ t, Steps p.tables e below (s₁.setTop (mkF m 0 #[.val (.int ((p3 &&& (2147483647 : Int32)) % (6 : Int32))), .val (.int (6 : Int32)), .val (.ref af23)] [])) t → Steps p.tables e below (s₁.setTop (entryFrame m #[(.int ((p3 &&& (2147483647 : Int32)) % (6 : Int32))), (.int (6 : Int32)), (.ref af23)] 3)) t := fun t k => castTop (own_ef_rm11 m p1 p2 p3 A K cs af23) k
  have KK0 : Keep h0 h0 [] := Keep.refl _ _
  obtain ⟨fs, hr, hrun, hended, hW, hsame⟩ := X0.leave (v := some (.int ((p3 &&& (2147483647 : Int32)) % (6 : Int32)))) (fun h => by rw [Bd.returns] at h; cases h)
  refine ⟨_, _, pre0 _ ?_, hrun, hended, _, _, rfl, ?_, ⟨_, rfl⟩, hW, hsame.mono (by decide) (by decide)⟩
  · show Steps p.tables e below (s₁.setTop (mkF m 0 #[.val (.int ((p3 &&& (2147483647 : Int32)) % (6 : Int32))), .val (.int (6 : Int32)), .val (.ref af23)] [])) _
    refine XS.iloadN X0.here hx rfl (hb hby own_d_jdk_41_method_11_code_0) rfl ?_
    show Steps p.tables e below (s₁.setTop (mkF m 1 #[.val (.int ((p3 &&& (2147483647 : Int32)) % (6 : Int32))), .val (.int (6 : Int32)), .val (.ref af23)] [(.int ((p3 &&& (2147483647 : Int32)) % (6 : Int32)))])) _
    refine XS.ifNo X0.here hx rfl (hb hby own_d_jdk_41_method_11_code_1) rfl ((if0 _ _).trans (flt (own_lo6 p3)).1) ?_
    show Steps p.tables e below (s₁.setTop (mkF m 4 #[.val (.int ((p3 &&& (2147483647 : Int32)) % (6 : Int32))), .val (.int (6 : Int32)), .val (.ref af23)] [])) _
    refine XS.iloadN X0.here hx rfl (hb hby own_d_jdk_41_method_11_code_4) rfl ?_
    show Steps p.tables e below (s₁.setTop (mkF m 5 #[.val (.int ((p3 &&& (2147483647 : Int32)) % (6 : Int32))), .val (.int (6 : Int32)), .val (.ref af23)] [(.int ((p3 &&& (2147483647 : Int32)) % (6 : Int32)))])) _
    refine XS.iloadN X0.here hx rfl (hb hby own_d_jdk_41_method_11_code_5) rfl ?_
    show Steps p.tables e below (s₁.setTop (mkF m 6 #[.val (.int ((p3 &&& (2147483647 : Int32)) % (6 : Int32))), .val (.int (6 : Int32)), .val (.ref af23)] [(.int (6 : Int32)), (.int ((p3 &&& (2147483647 : Int32)) % (6 : Int32)))])) _
    refine XS.icmpYes X0.here hx rfl (pc0 := 6) (pc' := 16) rfl (hb hby own_d_jdk_41_method_11_code_6) rfl (tlt (own_hi6 p3)).1 (by decide) (by decide) ?_
    show Steps p.tables e below (s₁.setTop (mkF m 16 #[.val (.int ((p3 &&& (2147483647 : Int32)) % (6 : Int32))), .val (.int (6 : Int32)), .val (.ref af23)] [])) _
    refine XS.iloadN X0.here hx rfl (hb hby own_d_jdk_41_method_11_code_16) rfl ?_
    show Steps p.tables e below (s₁.setTop (mkF m 17 #[.val (.int ((p3 &&& (2147483647 : Int32)) % (6 : Int32))), .val (.int (6 : Int32)), .val (.ref af23)] [(.int ((p3 &&& (2147483647 : Int32)) % (6 : Int32)))])) _
    exact retI X0 hx Bd.returns (hb hby own_d_jdk_41_method_11_code_17) hr
  · show PQ (some (.int ((p3 &&& (2147483647 : Int32)) % (6 : Int32)))) h0 n0 _ s₁.heap _
    rw [e0]
    exact ⟨rfl, N0, rfl⟩
theorem own_ef_rm9 (m : MethodId) (p1 : Int32) (p2 : Int32) (p3 : Int32) (A : Nat → Addr) (K : Nat → ClassId) (cs : Int32)  : entryFrame m #[(.int ((p3 &&& (2147483647 : Int32)) % (6 : Int32))), (.int (6 : Int32))] 2 = mkF m 0 #[.val (.int ((p3 &&& (2147483647 : Int32)) % (6 : Int32))), .val (.int (6 : Int32))] [] := by first | (simp [entryFrame, mkF, argsToLocals, Value.category, maxLocals]; done) | rfl
set_option maxRecDepth 65536 in
set_option maxHeartbeats 40000000 in
theorem rm9 (l : Launch) (Z : State) (a0 : Array Value) (hw : ∀ d ∈ tables_1, d.before a0 Z = true) (ws : List Jvm.Cond) (h0 : Heap) (n0 : Nat) (p1 : Int32) (p2 : Int32) (p3 : Int32) (A : Nat → Addr) (K : Nat → ClassId) (cs : Int32)  (EN : own_St Z A K cs) (OL0 : Old Z n0 h0) :
    MetFree l own_m4 (head1 (Jvm.Cond.code own_m4 jdk_42_method_155_code 2 none :: ws) ({ frames := 1, cells := 0, slots := 0, locals := 14 } : Room)) (fun a U => a = #[(.int ((p3 &&& (2147483647 : Int32)) % (6 : Int32))), (.int (6 : Int32))] ∧ Z.Warmed39 U.vm ∧ U.heap = h0) (fun _ _ _ _ _ => True) (fun _ U o U' => ∃ v L, o = .returned v ∧ (PQ none h0 n0) v U'.heap L ∧ FrameEnd U o U' L ({ frames := 1, cells := 0, slots := 0, locals := 14 } : Room).cells ({ frames := 1, cells := 0, slots := 0, locals := 14 } : Room).slots) := by
  refine MetFree.of_bodySF (plainFor_of_name own_pn0) hisR ?_
  intro p e s m args below meth c s₁ Bd hml0 hP hK
  obtain ⟨rfl, hZ, hh⟩ := hP
  have hx := Bd.exec
  have hby := Bd.bytes
  have hml : c.maxLocals = 2 := hml0
  have hown : s.vm.findClass "java/lang/String" = some m.cls := findClass_of_methodNamed Bd.named
  have hnm := (name_of_methodNamed Bd.named Bd.method).1
  have X0 : Stand p l e ({ frames := 1, cells := 0, slots := 0, locals := 14 } : Room) s m #[(.int ((p3 &&& (2147483647 : Int32)) % (6 : Int32))), (.int (6 : Int32))] below meth c s₁ [] 0 0 := Stand.of_body Bd
  have e0 : s₁.heap = h0 := by rw [← hh, Bd.state]; rfl
  have N0 := Fr.nil n0
  have pre0 : ∀ t, Steps p.tables e below (s₁.setTop (mkF m 0 #[.val (.int ((p3 &&& (2147483647 : Int32)) % (6 : Int32))), .val (.int (6 : Int32))] [])) t → Steps p.tables e below (s₁.setTop (entryFrame m #[(.int ((p3 &&& (2147483647 : Int32)) % (6 : Int32))), (.int (6 : Int32))] 2)) t := fun t k => castTop (own_ef_rm9 m p1 p2 p3 A K cs ) k
  have KK0 : Keep h0 h0 [] := Keep.refl _ _
  have pre22 : ∀ t, Steps p.tables e below (s₁.setTop (mkF m 2 #[.val (.int ((p3 &&& (2147483647 : Int32)) % (6 : Int32))), .val (.int (6 : Int32))] [(.int (6 : Int32)), (.int ((p3 &&& (2147483647 : Int32)) % (6 : Int32)))])) t → Steps p.tables e below (s₁.setTop (entryFrame m #[(.int ((p3 &&& (2147483647 : Int32)) % (6 : Int32))), (.int (6 : Int32))] 2)) t := fun t k => pre0 t (by
    show Steps p.tables e below (s₁.setTop (mkF m 0 #[.val (.int ((p3 &&& (2147483647 : Int32)) % (6 : Int32))), .val (.int (6 : Int32))] [])) _
    refine XS.iloadN X0.here hx rfl (hb hby own_d_jdk_42_method_155_code_0) rfl ?_
    show Steps p.tables e below (s₁.setTop (mkF m 1 #[.val (.int ((p3 &&& (2147483647 : Int32)) % (6 : Int32))), .val (.int (6 : Int32))] [(.int ((p3 &&& (2147483647 : Int32)) % (6 : Int32)))])) _
    refine XS.iloadN X0.here hx rfl (hb hby own_d_jdk_42_method_155_code_1) rfl ?_
    exact k)
  rcases EN.1.2.2.1 with SF23 | ⟨af23, SF23⟩
  · obtain ⟨T24, X24, e24, st24⟩ := getS2 X0 hx hZ hown (host := "") (Or.inl (hw _ (List.mem_of_getElem? (i := 29) rfl))) Via.refl e0 (SF23.ext OL0.2) (g := (mkF m 2 #[.val (.int ((p3 &&& (2147483647 : Int32)) % (6 : Int32))), .val (.int (6 : Int32))] [(.int (6 : Int32)), (.int ((p3 &&& (2147483647 : Int32)) % (6 : Int32)))])) rfl (hb hby own_d_jdk_42_method_155_code_2)
    obtain ⟨_, _, ⟨T25, L25, k25, n25⟩, -, X25, ⟨Lc25, hQ25, l25, y25, z25⟩, st25⟩ := Jvm.LawKit.callS X24 hx (y := own_m0) hown (mvT hZ (hw _ (List.mem_of_getElem? (i := 31) rfl))) (mvT hZ (hw _ (List.mem_of_getElem? (i := 32) rfl))) (mvT hZ (hw _ (List.mem_of_getElem? (i := 30) rfl))) (mvT hZ (hw _ (List.mem_of_getElem? (i := 33) rfl))) (by decide) (backOf (W := 0) (rm10 l Z a0 hw [] h0 n0 p1 p2 p3 A K cs EN OL0) hZ (hw _ (List.mem_of_getElem? (i := 33) rfl)) (hw _ (List.mem_of_getElem? (i := 30) rfl)) (by decide) (by decide)) (g := (mkF m 5 #[.val (.int ((p3 &&& (2147483647 : Int32)) % (6 : Int32))), .val (.int (6 : Int32))] [.null, (.int (6 : Int32)), (.int ((p3 &&& (2147483647 : Int32)) % (6 : Int32)))])) rfl (by rw [hml]; rfl) (argsL := [(.int ((p3 &&& (2147483647 : Int32)) % (6 : Int32))), (.int (6 : Int32)), .null]) (rest := []) (lenOf own_pd1 rfl) rfl (by show 2 * 0 + _ ≤ _; exact Nat.le_of_eq rfl) (hb hby own_d_jdk_42_method_155_code_5) (fun _ _ => ⟨rfl, e24, (by decide : 0 + 0 ≤ _), (by decide : 0 + 0 ≤ _)⟩)
    dsimp only [Pt.U, Pt.locs, Pt.cells, Pt.slots] at X25 l25 y25 z25 st25 hQ25
    subst l25 y25 z25
    obtain ⟨rfl, N25q, e25⟩ := hQ25
    have N25 := Fr.app N0 N25q
    obtain ⟨fs, hr, hrun, hended, hW, hsame⟩ := X25.leave (v := none) (fun _ => rfl)
    refine ⟨_, _, pre22 _ ?_, hrun, hended, _, _, rfl, ?_, ⟨_, rfl⟩, hW, hsame.mono (by decide) (by decide)⟩
    · show Steps p.tables e below (s₁.setTop (mkF m 2 #[.val (.int ((p3 &&& (2147483647 : Int32)) % (6 : Int32))), .val (.int (6 : Int32))] [(.int (6 : Int32)), (.int ((p3 &&& (2147483647 : Int32)) % (6 : Int32)))])) _
      refine st24 _ ?_
      show Steps p.tables e below (T24.setTop (mkF m 5 #[.val (.int ((p3 &&& (2147483647 : Int32)) % (6 : Int32))), .val (.int (6 : Int32))] [.null, (.int (6 : Int32)), (.int ((p3 &&& (2147483647 : Int32)) % (6 : Int32)))])) _
      refine st25 _ ?_
      show Steps p.tables e below (T25.setTop (mkF m 8 #[.val (.int ((p3 &&& (2147483647 : Int32)) % (6 : Int32))), .val (.int (6 : Int32))] [(.int ((p3 &&& (2147483647 : Int32)) % (6 : Int32)))])) _
      refine XS.pop X25.here hx rfl (hb hby own_d_jdk_42_method_155_code_8) rfl rfl ?_
      show Steps p.tables e below (T25.setTop (mkF m 9 #[.val (.int ((p3 &&& (2147483647 : Int32)) % (6 : Int32))), .val (.int (6 : Int32))] [])) _
      exact X25.returnOut hx Bd.returns (hb hby own_d_jdk_42_method_155_code_9) hr
    · show PQ none h0 n0 _ T25.heap _
      rw [e25]
      exact ⟨rfl, N25, rfl⟩
  · obtain ⟨T26, X26, e26, st26⟩ := getS2 X0 hx hZ hown (host := "") (Or.inl (hw _ (List.mem_of_getElem? (i := 29) rfl))) Via.refl e0 (SF23.ext OL0.2) (g := (mkF m 2 #[.val (.int ((p3 &&& (2147483647 : Int32)) % (6 : Int32))), .val (.int (6 : Int32))] [(.int (6 : Int32)), (.int ((p3 &&& (2147483647 : Int32)) % (6 : Int32)))])) rfl (hb hby own_d_jdk_42_method_155_code_2)
    obtain ⟨_, _, ⟨T27, L27, k27, n27⟩, -, X27, ⟨Lc27, hQ27, l27, y27, z27⟩, st27⟩ := Jvm.LawKit.callS X26 hx (y := own_m0) hown (mvT hZ (hw _ (List.mem_of_getElem? (i := 31) rfl))) (mvT hZ (hw _ (List.mem_of_getElem? (i := 32) rfl))) (mvT hZ (hw _ (List.mem_of_getElem? (i := 30) rfl))) (mvT hZ (hw _ (List.mem_of_getElem? (i := 33) rfl))) (by decide) (backOf (W := 0) (rm11 l Z a0 hw [] h0 n0 p1 p2 p3 A K cs af23 EN OL0) hZ (hw _ (List.mem_of_getElem? (i := 33) rfl)) (hw _ (List.mem_of_getElem? (i := 30) rfl)) (by decide) (by decide)) (g := (mkF m 5 #[.val (.int ((p3 &&& (2147483647 : Int32)) % (6 : Int32))), .val (.int (6 : Int32))] [(.ref af23), (.int (6 : Int32)), (.int ((p3 &&& (2147483647 : Int32)) % (6 : Int32)))])) rfl (by rw [hml]; rfl) (argsL := [(.int ((p3 &&& (2147483647 : Int32)) % (6 : Int32))), (.int (6 : Int32)), (.ref af23)]) (rest := []) (lenOf own_pd1 rfl) rfl (by show 2 * 0 + _ ≤ _; exact Nat.le_of_eq rfl) (hb hby own_d_jdk_42_method_155_code_5) (fun _ _ => ⟨rfl, e26, (by decide : 0 + 0 ≤ _), (by decide : 0 + 0 ≤ _)⟩)
    dsimp only [Pt.U, Pt.locs, Pt.cells, Pt.slots] at X27 l27 y27 z27 st27 hQ27
    subst l27 y27 z27
    obtain ⟨rfl, N27q, e27⟩ := hQ27
    have N27 := Fr.app N0 N27q
    obtain ⟨fs, hr, hrun, hended, hW, hsame⟩ := X27.leave (v := none) (fun _ => rfl)
    refine ⟨_, _, pre22 _ ?_, hrun, hended, _, _, rfl, ?_, ⟨_, rfl⟩, hW, hsame.mono (by decide) (by decide)⟩
    · show Steps p.tables e below (s₁.setTop (mkF m 2 #[.val (.int ((p3 &&& (2147483647 : Int32)) % (6 : Int32))), .val (.int (6 : Int32))] [(.int (6 : Int32)), (.int ((p3 &&& (2147483647 : Int32)) % (6 : Int32)))])) _
      refine st26 _ ?_
      show Steps p.tables e below (T26.setTop (mkF m 5 #[.val (.int ((p3 &&& (2147483647 : Int32)) % (6 : Int32))), .val (.int (6 : Int32))] [(.ref af23), (.int (6 : Int32)), (.int ((p3 &&& (2147483647 : Int32)) % (6 : Int32)))])) _
      refine st27 _ ?_
      show Steps p.tables e below (T27.setTop (mkF m 8 #[.val (.int ((p3 &&& (2147483647 : Int32)) % (6 : Int32))), .val (.int (6 : Int32))] [(.int ((p3 &&& (2147483647 : Int32)) % (6 : Int32)))])) _
      refine XS.pop X27.here hx rfl (hb hby own_d_jdk_42_method_155_code_8) rfl rfl ?_
      show Steps p.tables e below (T27.setTop (mkF m 9 #[.val (.int ((p3 &&& (2147483647 : Int32)) % (6 : Int32))), .val (.int (6 : Int32))] [])) _
      exact X27.returnOut hx Bd.returns (hb hby own_d_jdk_42_method_155_code_9) hr
    · show PQ none h0 n0 _ T27.heap _
      rw [e27]
      exact ⟨rfl, N27, rfl⟩
theorem own_ef_rm8 (m : MethodId) (p1 : Int32) (p2 : Int32) (p3 : Int32) (A : Nat → Addr) (K : Nat → ClassId) (cs : Int32)  (sb18 : Addr) (kc18 : ClassId) : entryFrame m #[(.ref sb18), (.int ((p3 &&& (2147483647 : Int32)) % (6 : Int32)))] 2 = mkF m 0 #[.val (.ref sb18), .val (.int ((p3 &&& (2147483647 : Int32)) % (6 : Int32)))] [] := by first | (simp [entryFrame, mkF, argsToLocals, Value.category, maxLocals]; done) | rfl
set_option maxRecDepth 65536 in
set_option maxHeartbeats 40000000 in
theorem rm8 (l : Launch) (Z : State) (a0 : Array Value) (hw : ∀ d ∈ tables_1, d.before a0 Z = true) (ws : List Jvm.Cond) (h0 : Heap) (n0 : Nat) (p1 : Int32) (p2 : Int32) (p3 : Int32) (A : Nat → Addr) (K : Nat → ClassId) (cs : Int32)  (sb18 : Addr) (kc18 : ClassId) (EN : own_St Z A K cs) (OL0 : Old Z n0 h0) (G_A_sb18 : Arv Z h0 sb18 kc18 .byte (6 : Int32) [(.int (47 : Int32)), (.int (58 : Int32)), (.int (96 : Int32)), (.int (103 : Int32)), (.int (64 : Int32)), (.int (71 : Int32))] (.int (0 : Int32))) :
    MetFree l own_m5 (head1 (Jvm.Cond.code own_m5 jdk_43_method_2_code 2 (some .char) :: ws) ({ frames := 2, cells := 0, slots := 0, locals := 27 } : Room)) (fun a U => a = #[(.ref sb18), (.int ((p3 &&& (2147483647 : Int32)) % (6 : Int32)))] ∧ Z.Warmed39 U.vm ∧ U.heap = h0) (fun _ _ _ _ _ => True) (fun _ U o U' => ∃ v L, o = .returned v ∧ (PQ (some (.int (nar .char (((own_tab1 ((p3 &&& (2147483647 : Int32)) % (6 : Int32))) &&& (255 : Int32)).toUInt32.toUInt16.toUInt32.toInt32)))) h0 n0) v U'.heap L ∧ FrameEnd U o U' L ({ frames := 2, cells := 0, slots := 0, locals := 27 } : Room).cells ({ frames := 2, cells := 0, slots := 0, locals := 27 } : Room).slots) := by
  refine MetFree.of_bodySF (plainFor_of_name own_pn2) hisR ?_
  intro p e s m args below meth c s₁ Bd hml0 hP hK
  obtain ⟨rfl, hZ, hh⟩ := hP
  have hx := Bd.exec
  have hby := Bd.bytes
  have hml : c.maxLocals = 2 := hml0
  have hown : s.vm.findClass "java/lang/StringLatin1" = some m.cls := findClass_of_methodNamed Bd.named
  have hnm := (name_of_methodNamed Bd.named Bd.method).1
  have X0 : Stand p l e ({ frames := 2, cells := 0, slots := 0, locals := 27 } : Room) s m #[(.ref sb18), (.int ((p3 &&& (2147483647 : Int32)) % (6 : Int32)))] below meth c s₁ [] 0 0 := Stand.of_body Bd
  have e0 : s₁.heap = h0 := by rw [← hh, Bd.state]; rfl
  have N0 := Fr.nil n0
  have pre0 : ∀ t, Steps p.tables e below (s₁.setTop (mkF m 0 #[.val (.ref sb18), .val (.int ((p3 &&& (2147483647 : Int32)) % (6 : Int32)))] [])) t → Steps p.tables e below (s₁.setTop (entryFrame m #[(.ref sb18), (.int ((p3 &&& (2147483647 : Int32)) % (6 : Int32)))] 2)) t := fun t k => castTop (own_ef_rm8 m p1 p2 p3 A K cs sb18 kc18) k
  have KK0 : Keep h0 h0 [] := Keep.refl _ _
  obtain ⟨cl21, Ar21, -, Sz21, Nn21, -, -⟩ := (id G_A_sb18)
  obtain ⟨_, _, ⟨T28, L28, k28, n28⟩, -, X28, ⟨Lc28, hQ28, l28, y28, z28⟩, st28⟩ := Jvm.LawKit.callS X0 hx (y := own_m4) hown (mvT hZ (hw _ (List.mem_of_getElem? (i := 26) rfl))) (mvT hZ (hw _ (List.mem_of_getElem? (i := 27) rfl))) (mvT hZ (hw _ (List.mem_of_getElem? (i := 1) rfl))) (mvT hZ (hw _ (List.mem_of_getElem? (i := 28) rfl))) (by decide) (backOf (W := 0) (rm9 l Z a0 hw [] h0 n0 p1 p2 p3 A K cs EN OL0) hZ (hw _ (List.mem_of_getElem? (i := 28) rfl)) (hw _ (List.mem_of_getElem? (i := 1) rfl)) (by decide) (by decide)) (g := (mkF m 3 #[.val (.ref sb18), .val (.int ((p3 &&& (2147483647 : Int32)) % (6 : Int32)))] [(.int (6 : Int32)), (.int ((p3 &&& (2147483647 : Int32)) % (6 : Int32)))])) rfl (by rw [hml]; rfl) (argsL := [(.int ((p3 &&& (2147483647 : Int32)) % (6 : Int32))), (.int (6 : Int32))]) (rest := []) (lenOf own_pd2 rfl) rfl (by show 2 * 0 + _ ≤ _; exact Nat.le_of_eq rfl) (hb hby own_d_jdk_43_method_2_code_3) (fun _ _ => ⟨rfl, e0, (by decide : 0 + 0 ≤ _), (by decide : 0 + 0 ≤ _)⟩)
  dsimp only [Pt.U, Pt.locs, Pt.cells, Pt.slots] at X28 l28 y28 z28 st28 hQ28
  subst l28 y28 z28
  obtain ⟨rfl, N28q, e28⟩ := hQ28
  have N28 := Fr.app N0 N28q
  obtain ⟨cl29, Ar29, q29, Sz29, Nn29, Hh29, Gg29⟩ := (id G_A_sb18)
  have hin29 : ¬ (((p3 &&& (2147483647 : Int32)) % (6 : Int32)) < 0 ∨ cl29.slots.size ≤ (((p3 &&& (2147483647 : Int32)) % (6 : Int32))).toNatClampNeg) := inb_of Sz29 ⟨(own_lo6 p3), (own_hi6 p3)⟩
  have hat29 : cl29.slots[(((p3 &&& (2147483647 : Int32)) % (6 : Int32))).toNatClampNeg]? = some (.int (own_tab1 ((p3 &&& (2147483647 : Int32)) % (6 : Int32)))) := Has.at Hh29 hin29 (own_tab1_at ((p3 &&& (2147483647 : Int32)) % (6 : Int32)))
  obtain ⟨fs, hr, hrun, hended, hW, hsame⟩ := X28.leave (v := some (.int (nar .char (((own_tab1 ((p3 &&& (2147483647 : Int32)) % (6 : Int32))) &&& (255 : Int32)).toUInt32.toUInt16.toUInt32.toInt32)))) (fun h => by rw [Bd.returns] at h; cases h)
  refine ⟨_, _, pre0 _ ?_, hrun, hended, _, _, rfl, ?_, ⟨_, rfl⟩, hW, hsame.mono (by decide) (by decide)⟩
  · show Steps p.tables e below (s₁.setTop (mkF m 0 #[.val (.ref sb18), .val (.int ((p3 &&& (2147483647 : Int32)) % (6 : Int32)))] [])) _
    refine XS.iloadN X0.here hx rfl (hb hby own_d_jdk_43_method_2_code_0) rfl ?_
    show Steps p.tables e below (s₁.setTop (mkF m 1 #[.val (.ref sb18), .val (.int ((p3 &&& (2147483647 : Int32)) % (6 : Int32)))] [(.int ((p3 &&& (2147483647 : Int32)) % (6 : Int32)))])) _
    refine XS.aloadN X0.here hx rfl (hb hby own_d_jdk_43_method_2_code_1) rfl rfl ?_
    show Steps p.tables e below (s₁.setTop (mkF m 2 #[.val (.ref sb18), .val (.int ((p3 &&& (2147483647 : Int32)) % (6 : Int32)))] [(.ref sb18), (.int ((p3 &&& (2147483647 : Int32)) % (6 : Int32)))])) _
    refine X0.arraylength hx (by rw [e0]; exact Ar21.1) (State.isArrayOf_alike hZ.alike Ar21.2.1) (g := (mkF m 2 #[.val (.ref sb18), .val (.int ((p3 &&& (2147483647 : Int32)) % (6 : Int32)))] [(.ref sb18), (.int ((p3 &&& (2147483647 : Int32)) % (6 : Int32)))])) rfl rfl (hb hby own_d_jdk_43_method_2_code_2) _ ?_
    rw [len_of Sz21 Nn21]
    show Steps p.tables e below (s₁.setTop (mkF m 3 #[.val (.ref sb18), .val (.int ((p3 &&& (2147483647 : Int32)) % (6 : Int32)))] [(.int (6 : Int32)), (.int ((p3 &&& (2147483647 : Int32)) % (6 : Int32)))])) _
    refine st28 _ ?_
    show Steps p.tables e below (T28.setTop (mkF m 6 #[.val (.ref sb18), .val (.int ((p3 &&& (2147483647 : Int32)) % (6 : Int32)))] [])) _
    refine XS.aloadN X28.here hx rfl (hb hby own_d_jdk_43_method_2_code_6) rfl rfl ?_
    show Steps p.tables e below (T28.setTop (mkF m 7 #[.val (.ref sb18), .val (.int ((p3 &&& (2147483647 : Int32)) % (6 : Int32)))] [(.ref sb18)])) _
    refine XS.iloadN X28.here hx rfl (hb hby own_d_jdk_43_method_2_code_7) rfl ?_
    show Steps p.tables e below (T28.setTop (mkF m 8 #[.val (.ref sb18), .val (.int ((p3 &&& (2147483647 : Int32)) % (6 : Int32)))] [(.int ((p3 &&& (2147483647 : Int32)) % (6 : Int32))), (.ref sb18)])) _
    refine X28.baloadBytes hx (j := ((p3 &&& (2147483647 : Int32)) % (6 : Int32))) (v := (.int (own_tab1 ((p3 &&& (2147483647 : Int32)) % (6 : Int32))))) (by rw [e28]; exact Ar29.1) (State.isArrayOf_alike hZ.alike Ar29.2.1) Ar29.2.2 hin29 hat29 (g := (mkF m 8 #[.val (.ref sb18), .val (.int ((p3 &&& (2147483647 : Int32)) % (6 : Int32)))] [(.int ((p3 &&& (2147483647 : Int32)) % (6 : Int32))), (.ref sb18)])) rfl rfl (hb hby own_d_jdk_43_method_2_code_8) _ ?_
    show Steps p.tables e below (T28.setTop (mkF m 9 #[.val (.ref sb18), .val (.int ((p3 &&& (2147483647 : Int32)) % (6 : Int32)))] [(.int (own_tab1 ((p3 &&& (2147483647 : Int32)) % (6 : Int32))))])) _
    refine XS.sipush X28.here hx rfl (hb hby own_d_jdk_43_method_2_code_9) ?_
    show Steps p.tables e below (T28.setTop (mkF m 12 #[.val (.ref sb18), .val (.int ((p3 &&& (2147483647 : Int32)) % (6 : Int32)))] [(.int (255 : Int32)), (.int (own_tab1 ((p3 &&& (2147483647 : Int32)) % (6 : Int32))))])) _
    refine XS.iand X28.here hx rfl (hb hby own_d_jdk_43_method_2_code_12) rfl ?_
    show Steps p.tables e below (T28.setTop (mkF m 13 #[.val (.ref sb18), .val (.int ((p3 &&& (2147483647 : Int32)) % (6 : Int32)))] [(.int ((own_tab1 ((p3 &&& (2147483647 : Int32)) % (6 : Int32))) &&& (255 : Int32)))])) _
    refine XS.i2c X28.here hx rfl (hb hby own_d_jdk_43_method_2_code_13) rfl ?_
    show Steps p.tables e below (T28.setTop (mkF m 14 #[.val (.ref sb18), .val (.int ((p3 &&& (2147483647 : Int32)) % (6 : Int32)))] [(.int (((own_tab1 ((p3 &&& (2147483647 : Int32)) % (6 : Int32))) &&& (255 : Int32)).toUInt32.toUInt16.toUInt32.toInt32))])) _
    exact retN X28 hx (t := .char) Bd.returns (by simp) (hb hby own_d_jdk_43_method_2_code_14) hr
  · show PQ (some (.int (nar .char (((own_tab1 ((p3 &&& (2147483647 : Int32)) % (6 : Int32))) &&& (255 : Int32)).toUInt32.toUInt16.toUInt32.toInt32)))) h0 n0 _ T28.heap _
    rw [e28]
    exact ⟨rfl, N28, rfl⟩
theorem own_ef_rm7 (m : MethodId) (p1 : Int32) (p2 : Int32) (p3 : Int32) (A : Nat → Addr) (K : Nat → ClassId) (cs : Int32)  (sb18 : Addr) (sa18 : Addr) (kc18 : ClassId) : entryFrame m #[(.ref sa18), (.int ((p3 &&& (2147483647 : Int32)) % (6 : Int32)))] 2 = mkF m 0 #[.val (.ref sa18), .val (.int ((p3 &&& (2147483647 : Int32)) % (6 : Int32)))] [] := by first | (simp [entryFrame, mkF, argsToLocals, Value.category, maxLocals]; done) | rfl
set_option maxRecDepth 65536 in
set_option maxHeartbeats 40000000 in
theorem rm7 (l : Launch) (Z : State) (a0 : Array Value) (hw : ∀ d ∈ tables_1, d.before a0 Z = true) (ws : List Jvm.Cond) (h0 : Heap) (n0 : Nat) (p1 : Int32) (p2 : Int32) (p3 : Int32) (A : Nat → Addr) (K : Nat → ClassId) (cs : Int32)  (sb18 : Addr) (sa18 : Addr) (kc18 : ClassId) (EN : own_St Z A K cs) (OL0 : Old Z n0 h0) (G_E_sa18 : Exa Z h0 sa18 "java/lang/String") (G_F_sa18_java_lang_String_coder : Fld Z h0 sa18 "java/lang/String" "coder" "B" (.int (0 : Int32))) (G_F_sa18_java_lang_String_value : Fld Z h0 sa18 "java/lang/String" "value" "[B" (.ref sb18)) (G_A_sb18 : Arv Z h0 sb18 kc18 .byte (6 : Int32) [(.int (47 : Int32)), (.int (58 : Int32)), (.int (96 : Int32)), (.int (103 : Int32)), (.int (64 : Int32)), (.int (71 : Int32))] (.int (0 : Int32))) :
    MetFree l own_m2 (head1 (Jvm.Cond.code own_m2 jdk_42_method_56_code 2 (some .char) :: ws) ({ frames := 3, cells := 0, slots := 0, locals := 40 } : Room)) (fun a U => a = #[(.ref sa18), (.int ((p3 &&& (2147483647 : Int32)) % (6 : Int32)))] ∧ Z.Warmed39 U.vm ∧ U.heap = h0) (fun _ _ _ _ _ => True) (fun _ U o U' => ∃ v L, o = .returned v ∧ (PQ (some (.int (nar .char (nar .char (((own_tab1 ((p3 &&& (2147483647 : Int32)) % (6 : Int32))) &&& (255 : Int32)).toUInt32.toUInt16.toUInt32.toInt32))))) h0 n0) v U'.heap L ∧ FrameEnd U o U' L ({ frames := 3, cells := 0, slots := 0, locals := 40 } : Room).cells ({ frames := 3, cells := 0, slots := 0, locals := 40 } : Room).slots) := by
  refine MetFree.of_bodySF (plainFor_of_name own_pn0) hisR ?_
  intro p e s m args below meth c s₁ Bd hml0 hP hK
  obtain ⟨rfl, hZ, hh⟩ := hP
  have hx := Bd.exec
  have hby := Bd.bytes
  have hml : c.maxLocals = 2 := hml0
  have hown : s.vm.findClass "java/lang/String" = some m.cls := findClass_of_methodNamed Bd.named
  have hnm := (name_of_methodNamed Bd.named Bd.method).1
  have X0 : Stand p l e ({ frames := 3, cells := 0, slots := 0, locals := 40 } : Room) s m #[(.ref sa18), (.int ((p3 &&& (2147483647 : Int32)) % (6 : Int32)))] below meth c s₁ [] 0 0 := Stand.of_body Bd
  have e0 : s₁.heap = h0 := by rw [← hh, Bd.state]; rfl
  have N0 := Fr.nil n0
  have pre0 : ∀ t, Steps p.tables e below (s₁.setTop (mkF m 0 #[.val (.ref sa18), .val (.int ((p3 &&& (2147483647 : Int32)) % (6 : Int32)))] [])) t → Steps p.tables e below (s₁.setTop (entryFrame m #[(.ref sa18), (.int ((p3 &&& (2147483647 : Int32)) % (6 : Int32)))] 2)) t := fun t k => castTop (own_ef_rm7 m p1 p2 p3 A K cs sb18 sa18 kc18) k
  have KK0 : Keep h0 h0 [] := Keep.refl _ _
  obtain ⟨cq19, kq19, q19a, q19b, q19c⟩ := isOf hZ e0 G_E_sa18
  obtain ⟨_, _, ⟨T19, L19, k19, n19⟩, -, X19, ⟨Lc19, hQ19, l19, y19, z19⟩, st19⟩ := X0.virtualBack hx (y := own_m3) (z := own_m3) hown (mvT hZ (hw _ (List.mem_of_getElem? (i := 14) rfl))) (mvT hZ (hw _ (List.mem_of_getElem? (i := 15) rfl))) (notFace_of_selects (args := #[]) (mvT hZ (hw _ (List.mem_of_getElem? (i := 17) rfl)))) (mvT hZ (hw _ (List.mem_of_getElem? (i := 17) rfl))) (mvT hZ (hw _ (List.mem_of_getElem? (i := 16) rfl))) (by decide) (backOf (W := 0) (rm2 l Z a0 hw [] h0 n0 p1 p2 p3 A K cs sa18 EN OL0 G_F_sa18_java_lang_String_coder) hZ (hw _ (List.mem_of_getElem? (i := 18) rfl)) (hw _ (List.mem_of_getElem? (i := 1) rfl)) (by decide) (by decide)) q19a q19c (g := (mkF m 1 #[.val (.ref sa18), .val (.int ((p3 &&& (2147483647 : Int32)) % (6 : Int32)))] [(.ref sa18)])) rfl (by rw [hml]; rfl) (Steps.refl _) (argsL := []) (rest := []) (lenOf own_pd0 rfl) rfl (by show 2 * 0 + _ ≤ _; exact Nat.le_of_eq rfl) (hb hby own_d_jdk_42_method_56_code_1) (fun _ _ => ⟨rfl, e0, (by decide : 0 + 0 ≤ _), (by decide : 0 + 0 ≤ _)⟩)
  dsimp only [Pt.U, Pt.locs, Pt.cells, Pt.slots] at X19 l19 y19 z19 st19 hQ19
  subst l19 y19 z19
  obtain ⟨rfl, N19q, e19⟩ := hQ19
  have N19 := Fr.app N0 N19q
  obtain ⟨T20, X20, e20, st20⟩ := getF X19 hx hZ hown (host := "") (Or.inl (hw _ (List.mem_of_getElem? (i := 21) rfl))) Via.refl e19 G_F_sa18_java_lang_String_value (g := (mkF m 8 #[.val (.ref sa18), .val (.int ((p3 &&& (2147483647 : Int32)) % (6 : Int32)))] [(.ref sa18)])) rfl rfl (hb hby own_d_jdk_42_method_56_code_8)
  obtain ⟨_, _, ⟨T30, L30, k30, n30⟩, -, X30, ⟨Lc30, hQ30, l30, y30, z30⟩, st30⟩ := Jvm.LawKit.callS X20 hx (y := own_m5) hown (mvT hZ (hw _ (List.mem_of_getElem? (i := 22) rfl))) (mvT hZ (hw _ (List.mem_of_getElem? (i := 23) rfl))) (mvT hZ (hw _ (List.mem_of_getElem? (i := 24) rfl))) (mvT hZ (hw _ (List.mem_of_getElem? (i := 25) rfl))) (by decide) (backOf (W := 0) (rm8 l Z a0 hw [] h0 n0 p1 p2 p3 A K cs sb18 kc18 EN OL0 G_A_sb18) hZ (hw _ (List.mem_of_getElem? (i := 25) rfl)) (hw _ (List.mem_of_getElem? (i := 24) rfl)) (by decide) (by decide)) (g := (mkF m 12 #[.val (.ref sa18), .val (.int ((p3 &&& (2147483647 : Int32)) % (6 : Int32)))] [(.int ((p3 &&& (2147483647 : Int32)) % (6 : Int32))), (.ref sb18)])) rfl (by rw [hml]; rfl) (argsL := [(.ref sb18), (.int ((p3 &&& (2147483647 : Int32)) % (6 : Int32)))]) (rest := []) (lenOf own_pd3 rfl) rfl (by show 2 * 0 + _ ≤ _; exact Nat.le_of_eq rfl) (hb hby own_d_jdk_42_method_56_code_12) (fun _ _ => ⟨rfl, e20, (by decide : 0 + 0 ≤ _), (by decide : 0 + 0 ≤ _)⟩)
  dsimp only [Pt.U, Pt.locs, Pt.cells, Pt.slots] at X30 l30 y30 z30 st30 hQ30
  subst l30 y30 z30
  obtain ⟨rfl, N30q, e30⟩ := hQ30
  have N30 := Fr.app N19 N30q
  obtain ⟨fs, hr, hrun, hended, hW, hsame⟩ := X30.leave (v := some (.int (nar .char (nar .char (((own_tab1 ((p3 &&& (2147483647 : Int32)) % (6 : Int32))) &&& (255 : Int32)).toUInt32.toUInt16.toUInt32.toInt32))))) (fun h => by rw [Bd.returns] at h; cases h)
  refine ⟨_, _, pre0 _ ?_, hrun, hended, _, _, rfl, ?_, ⟨_, rfl⟩, hW, hsame.mono (by decide) (by decide)⟩
  · show Steps p.tables e below (s₁.setTop (mkF m 0 #[.val (.ref sa18), .val (.int ((p3 &&& (2147483647 : Int32)) % (6 : Int32)))] [])) _
    refine XS.aloadN X0.here hx rfl (hb hby own_d_jdk_42_method_56_code_0) rfl rfl ?_
    show Steps p.tables e below (s₁.setTop (mkF m 1 #[.val (.ref sa18), .val (.int ((p3 &&& (2147483647 : Int32)) % (6 : Int32)))] [(.ref sa18)])) _
    refine st19.trans ?_
    show Steps p.tables e below (T19.setTop (mkF m 4 #[.val (.ref sa18), .val (.int ((p3 &&& (2147483647 : Int32)) % (6 : Int32)))] [(.int (1 : Int32))])) _
    refine XS.ifNo X19.here hx rfl (hb hby own_d_jdk_42_method_56_code_4) rfl ((if0 _ _).trans (feq (by decide : ¬ ((1 : Int32) = (0 : Int32)))).1) ?_
    show Steps p.tables e below (T19.setTop (mkF m 7 #[.val (.ref sa18), .val (.int ((p3 &&& (2147483647 : Int32)) % (6 : Int32)))] [])) _
    refine XS.aloadN X19.here hx rfl (hb hby own_d_jdk_42_method_56_code_7) rfl rfl ?_
    show Steps p.tables e below (T19.setTop (mkF m 8 #[.val (.ref sa18), .val (.int ((p3 &&& (2147483647 : Int32)) % (6 : Int32)))] [(.ref sa18)])) _
    refine st20 _ ?_
    show Steps p.tables e below (T20.setTop (mkF m 11 #[.val (.ref sa18), .val (.int ((p3 &&& (2147483647 : Int32)) % (6 : Int32)))] [(.ref sb18)])) _
    refine XS.iloadN X20.here hx rfl (hb hby own_d_jdk_42_method_56_code_11) rfl ?_
    show Steps p.tables e below (T20.setTop (mkF m 12 #[.val (.ref sa18), .val (.int ((p3 &&& (2147483647 : Int32)) % (6 : Int32)))] [(.int ((p3 &&& (2147483647 : Int32)) % (6 : Int32))), (.ref sb18)])) _
    refine st30 _ ?_
    show Steps p.tables e below (T30.setTop (mkF m 15 #[.val (.ref sa18), .val (.int ((p3 &&& (2147483647 : Int32)) % (6 : Int32)))] [(.int (nar .char (((own_tab1 ((p3 &&& (2147483647 : Int32)) % (6 : Int32))) &&& (255 : Int32)).toUInt32.toUInt16.toUInt32.toInt32)))])) _
    exact retN X30 hx (t := .char) Bd.returns (by simp) (hb hby own_d_jdk_42_method_56_code_15) hr
  · show PQ (some (.int (nar .char (nar .char (((own_tab1 ((p3 &&& (2147483647 : Int32)) % (6 : Int32))) &&& (255 : Int32)).toUInt32.toUInt16.toUInt32.toInt32))))) h0 n0 _ T30.heap _
    rw [e30]
    exact ⟨rfl, N30, rfl⟩
theorem own_d_prog_13_method_10_code_0 : decode prog_13_method_10_code 0 = .ok (.iload_n 0, 1) := by decide +kernel
theorem own_d_prog_13_method_10_code_1 : decode prog_13_method_10_code 1 = .ok (.bipush 48, 2) := by decide +kernel
theorem own_d_prog_13_method_10_code_3 : decode prog_13_method_10_code 3 = .ok (.if_icmp .lt 9, 3) := by decide +kernel
theorem own_d_prog_13_method_10_code_6 : decode prog_13_method_10_code 6 = .ok (.iload_n 0, 1) := by decide +kernel
theorem own_d_prog_13_method_10_code_7 : decode prog_13_method_10_code 7 = .ok (.bipush 57, 2) := by decide +kernel
theorem own_d_prog_13_method_10_code_9 : decode prog_13_method_10_code 9 = .ok (.if_icmp .le 27, 3) := by decide +kernel
theorem own_d_prog_13_method_10_code_12 : decode prog_13_method_10_code 12 = .ok (.iload_n 0, 1) := by decide +kernel
theorem own_d_prog_13_method_10_code_13 : decode prog_13_method_10_code 13 = .ok (.bipush 97, 2) := by decide +kernel
theorem own_d_prog_13_method_10_code_15 : decode prog_13_method_10_code 15 = .ok (.if_icmp .lt 9, 3) := by decide +kernel
theorem own_d_prog_13_method_10_code_18 : decode prog_13_method_10_code 18 = .ok (.iload_n 0, 1) := by decide +kernel
theorem own_d_prog_13_method_10_code_19 : decode prog_13_method_10_code 19 = .ok (.bipush 102, 2) := by decide +kernel
theorem own_d_prog_13_method_10_code_21 : decode prog_13_method_10_code 21 = .ok (.if_icmp .le 15, 3) := by decide +kernel
theorem own_d_prog_13_method_10_code_24 : decode prog_13_method_10_code 24 = .ok (.iload_n 0, 1) := by decide +kernel
theorem own_d_prog_13_method_10_code_25 : decode prog_13_method_10_code 25 = .ok (.bipush 65, 2) := by decide +kernel
theorem own_d_prog_13_method_10_code_27 : decode prog_13_method_10_code 27 = .ok (.if_icmp .lt 13, 3) := by decide +kernel
theorem own_d_prog_13_method_10_code_30 : decode prog_13_method_10_code 30 = .ok (.iload_n 0, 1) := by decide +kernel
theorem own_d_prog_13_method_10_code_31 : decode prog_13_method_10_code 31 = .ok (.bipush 70, 2) := by decide +kernel
theorem own_d_prog_13_method_10_code_33 : decode prog_13_method_10_code 33 = .ok (.if_icmp .gt 7, 3) := by decide +kernel
theorem own_d_prog_13_method_10_code_36 : decode prog_13_method_10_code 36 = .ok (.iconst 1, 1) := by decide +kernel
theorem own_d_prog_13_method_10_code_37 : decode prog_13_method_10_code 37 = .ok (.goto 4, 3) := by decide +kernel
theorem own_d_prog_13_method_10_code_40 : decode prog_13_method_10_code 40 = .ok (.iconst 0, 1) := by decide +kernel
theorem own_d_prog_13_method_10_code_41 : decode prog_13_method_10_code 41 = .ok (.ireturn, 1) := by decide +kernel
theorem own_pn3 : plainName "com/example/makusanyo/makusanyo/PercentEscapes" = true := by first | (simp [plainName, overriddenIn]; done) | decide +kernel
theorem own_ef_rm12 (m : MethodId) (p1 : Int32) (p2 : Int32) (p3 : Int32) (A : Nat → Addr) (K : Nat → ClassId) (cs : Int32)  : entryFrame m #[(.int p1)] 1 = mkF m 0 #[.val (.int p1)] [] := by first | (simp [entryFrame, mkF, argsToLocals, Value.category, maxLocals]; done) | rfl
def own_f_rm12 (p1 : Int32) : Int32 := if p1 < (48 : Int32) then (if p1 < (97 : Int32) then (if p1 < (65 : Int32) then (0 : Int32)
      else if (70 : Int32) < p1 then (0 : Int32)
        else (1 : Int32))
    else if (102 : Int32) < p1 then (if p1 < (65 : Int32) then (0 : Int32)
        else if (70 : Int32) < p1 then (0 : Int32)
          else (1 : Int32))
      else (1 : Int32))
  else if (57 : Int32) < p1 then (if p1 < (97 : Int32) then (if p1 < (65 : Int32) then (0 : Int32)
        else if (70 : Int32) < p1 then (0 : Int32)
          else (1 : Int32))
      else if (102 : Int32) < p1 then (if p1 < (65 : Int32) then (0 : Int32)
          else if (70 : Int32) < p1 then (0 : Int32)
            else (1 : Int32))
        else (1 : Int32))
    else (1 : Int32)
set_option maxRecDepth 65536 in
set_option maxHeartbeats 40000000 in
theorem rm12 (l : Launch) (Z : State) (a0 : Array Value) (hw : ∀ d ∈ tables_1, d.before a0 Z = true) (ws : List Jvm.Cond) (h0 : Heap) (n0 : Nat) (p1 : Int32) (p2 : Int32) (p3 : Int32) (A : Nat → Addr) (K : Nat → ClassId) (cs : Int32)  (EN : own_St Z A K cs) (OL0 : Old Z n0 h0) :
    MetFree l own_m1 (head1 (Jvm.Cond.code own_m1 prog_13_method_10_code 1 (some .boolean) :: ws) ({ frames := 0, cells := 0, slots := 0, locals := 0 } : Room)) (fun a U => a = #[(.int p1)] ∧ Z.Warmed39 U.vm ∧ U.heap = h0) (fun _ _ _ _ _ => True) (fun _ U o U' => ∃ v L, o = .returned v ∧ (PQ (some (.int (own_f_rm12 p1))) h0 n0) v U'.heap L ∧ FrameEnd U o U' L ({ frames := 0, cells := 0, slots := 0, locals := 0 } : Room).cells ({ frames := 0, cells := 0, slots := 0, locals := 0 } : Room).slots) := by
  refine MetFree.of_bodySF (plainFor_of_name own_pn3) hisR ?_
  intro p e s m args below meth c s₁ Bd hml0 hP hK
  obtain ⟨rfl, hZ, hh⟩ := hP
  have hx := Bd.exec
  have hby := Bd.bytes
  have hml : c.maxLocals = 1 := hml0
  have hown : s.vm.findClass "com/example/makusanyo/makusanyo/PercentEscapes" = some m.cls := findClass_of_methodNamed Bd.named
  have hnm := (name_of_methodNamed Bd.named Bd.method).1
  have X0 : Stand p l e ({ frames := 0, cells := 0, slots := 0, locals := 0 } : Room) s m #[(.int p1)] below meth c s₁ [] 0 0 := Stand.of_body Bd
  have e0 : s₁.heap = h0 := by rw [← hh, Bd.state]; rfl
  have N0 := Fr.nil n0
  have pre0 : ∀ t, Steps p.tables e below (s₁.setTop (mkF m 0 #[.val (.int p1)] [])) t → Steps p.tables e below (s₁.setTop (entryFrame m #[(.int p1)] 1)) t := fun t k => castTop (own_ef_rm12 m p1 p2 p3 A K cs ) k
  have KK0 : Keep h0 h0 [] := Keep.refl _ _
  have pre32 : ∀ t, Steps p.tables e below (s₁.setTop (mkF m 3 #[.val (.int p1)] [(.int (48 : Int32)), (.int p1)])) t → Steps p.tables e below (s₁.setTop (entryFrame m #[(.int p1)] 1)) t := fun t k => pre0 t (by
    show Steps p.tables e below (s₁.setTop (mkF m 0 #[.val (.int p1)] [])) _
    refine XS.iloadN X0.here hx rfl (hb hby own_d_prog_13_method_10_code_0) rfl ?_
    show Steps p.tables e below (s₁.setTop (mkF m 1 #[.val (.int p1)] [(.int p1)])) _
    refine XS.bipush X0.here hx rfl (hb hby own_d_prog_13_method_10_code_1) ?_
    exact k)
  by_cases hc3_33 : p1 < (48 : Int32)
  · have pre34 : ∀ t, Steps p.tables e below (s₁.setTop (mkF m 15 #[.val (.int p1)] [(.int (97 : Int32)), (.int p1)])) t → Steps p.tables e below (s₁.setTop (entryFrame m #[(.int p1)] 1)) t := fun t k => pre32 t (by
      show Steps p.tables e below (s₁.setTop (mkF m 3 #[.val (.int p1)] [(.int (48 : Int32)), (.int p1)])) _
      refine XS.icmpYes X0.here hx rfl (pc0 := 3) (pc' := 12) rfl (hb hby own_d_prog_13_method_10_code_3) rfl (tlt hc3_33).1 (by decide) (by decide) ?_
      show Steps p.tables e below (s₁.setTop (mkF m 12 #[.val (.int p1)] [])) _
      refine XS.iloadN X0.here hx rfl (hb hby own_d_prog_13_method_10_code_12) rfl ?_
      show Steps p.tables e below (s₁.setTop (mkF m 13 #[.val (.int p1)] [(.int p1)])) _
      refine XS.bipush X0.here hx rfl (hb hby own_d_prog_13_method_10_code_13) ?_
      exact k)
    by_cases hc15_35 : p1 < (97 : Int32)
    · have pre36 : ∀ t, Steps p.tables e below (s₁.setTop (mkF m 27 #[.val (.int p1)] [(.int (65 : Int32)), (.int p1)])) t → Steps p.tables e below (s₁.setTop (entryFrame m #[(.int p1)] 1)) t := fun t k => pre34 t (by
        show Steps p.tables e below (s₁.setTop (mkF m 15 #[.val (.int p1)] [(.int (97 : Int32)), (.int p1)])) _
        refine XS.icmpYes X0.here hx rfl (pc0 := 15) (pc' := 24) rfl (hb hby own_d_prog_13_method_10_code_15) rfl (tlt hc15_35).1 (by decide) (by decide) ?_
        show Steps p.tables e below (s₁.setTop (mkF m 24 #[.val (.int p1)] [])) _
        refine XS.iloadN X0.here hx rfl (hb hby own_d_prog_13_method_10_code_24) rfl ?_
        show Steps p.tables e below (s₁.setTop (mkF m 25 #[.val (.int p1)] [(.int p1)])) _
        refine XS.bipush X0.here hx rfl (hb hby own_d_prog_13_method_10_code_25) ?_
        exact k)
      by_cases hc27_37 : p1 < (65 : Int32)
      · obtain ⟨fs, hr, hrun, hended, hW, hsame⟩ := X0.leave (v := some (.int (0 : Int32))) (fun h => by rw [Bd.returns] at h; cases h)
        refine ⟨_, _, pre36 _ ?_, hrun, hended, _, _, rfl, ?_, ⟨_, rfl⟩, hW, hsame.mono (by decide) (by decide)⟩
        · show Steps p.tables e below (s₁.setTop (mkF m 27 #[.val (.int p1)] [(.int (65 : Int32)), (.int p1)])) _
          refine XS.icmpYes X0.here hx rfl (pc0 := 27) (pc' := 40) rfl (hb hby own_d_prog_13_method_10_code_27) rfl (tlt hc27_37).1 (by decide) (by decide) ?_
          show Steps p.tables e below (s₁.setTop (mkF m 40 #[.val (.int p1)] [])) _
          refine XS.iconst X0.here hx rfl (hb hby own_d_prog_13_method_10_code_40) ?_
          show Steps p.tables e below (s₁.setTop (mkF m 41 #[.val (.int p1)] [(.int (0 : Int32))])) _
          exact retN X0 hx (t := .boolean) Bd.returns (by simp) (hb hby own_d_prog_13_method_10_code_41) hr
        · show PQ (some (.int (own_f_rm12 p1))) h0 n0 _ s₁.heap _
          rw [e0]
          exact ⟨congrArg (fun z => some (Value.int z)) (by unfold own_f_rm12; rw [if_pos hc3_33, if_pos hc15_35, if_pos hc27_37]), N0, rfl⟩
      · have pre38 : ∀ t, Steps p.tables e below (s₁.setTop (mkF m 33 #[.val (.int p1)] [(.int (70 : Int32)), (.int p1)])) t → Steps p.tables e below (s₁.setTop (entryFrame m #[(.int p1)] 1)) t := fun t k => pre36 t (by
          show Steps p.tables e below (s₁.setTop (mkF m 27 #[.val (.int p1)] [(.int (65 : Int32)), (.int p1)])) _
          refine XS.icmpNo X0.here hx rfl (hb hby own_d_prog_13_method_10_code_27) rfl (flt hc27_37).1 ?_
          show Steps p.tables e below (s₁.setTop (mkF m 30 #[.val (.int p1)] [])) _
          refine XS.iloadN X0.here hx rfl (hb hby own_d_prog_13_method_10_code_30) rfl ?_
          show Steps p.tables e below (s₁.setTop (mkF m 31 #[.val (.int p1)] [(.int p1)])) _
          refine XS.bipush X0.here hx rfl (hb hby own_d_prog_13_method_10_code_31) ?_
          exact k)
        by_cases hc33_39 : (70 : Int32) < p1
        · obtain ⟨fs, hr, hrun, hended, hW, hsame⟩ := X0.leave (v := some (.int (0 : Int32))) (fun h => by rw [Bd.returns] at h; cases h)
          refine ⟨_, _, pre38 _ ?_, hrun, hended, _, _, rfl, ?_, ⟨_, rfl⟩, hW, hsame.mono (by decide) (by decide)⟩
          · show Steps p.tables e below (s₁.setTop (mkF m 33 #[.val (.int p1)] [(.int (70 : Int32)), (.int p1)])) _
            refine XS.icmpYes X0.here hx rfl (pc0 := 33) (pc' := 40) rfl (hb hby own_d_prog_13_method_10_code_33) rfl (tlt hc33_39).2.2.1 (by decide) (by decide) ?_
            show Steps p.tables e below (s₁.setTop (mkF m 40 #[.val (.int p1)] [])) _
            refine XS.iconst X0.here hx rfl (hb hby own_d_prog_13_method_10_code_40) ?_
            show Steps p.tables e below (s₁.setTop (mkF m 41 #[.val (.int p1)] [(.int (0 : Int32))])) _
            exact retN X0 hx (t := .boolean) Bd.returns (by simp) (hb hby own_d_prog_13_method_10_code_41) hr
          · show PQ (some (.int (own_f_rm12 p1))) h0 n0 _ s₁.heap _
            rw [e0]
            exact ⟨congrArg (fun z => some (Value.int z)) (by unfold own_f_rm12; rw [if_pos hc3_33, if_pos hc15_35, if_neg hc27_37, if_pos hc33_39]), N0, rfl⟩
        · obtain ⟨fs, hr, hrun, hended, hW, hsame⟩ := X0.leave (v := some (.int (1 : Int32))) (fun h => by rw [Bd.returns] at h; cases h)
          refine ⟨_, _, pre38 _ ?_, hrun, hended, _, _, rfl, ?_, ⟨_, rfl⟩, hW, hsame.mono (by decide) (by decide)⟩
          · show Steps p.tables e below (s₁.setTop (mkF m 33 #[.val (.int p1)] [(.int (70 : Int32)), (.int p1)])) _
            refine XS.icmpNo X0.here hx rfl (hb hby own_d_prog_13_method_10_code_33) rfl (flt hc33_39).2.2.1 ?_
            show Steps p.tables e below (s₁.setTop (mkF m 36 #[.val (.int p1)] [])) _
            refine XS.iconst X0.here hx rfl (hb hby own_d_prog_13_method_10_code_36) ?_
            show Steps p.tables e below (s₁.setTop (mkF m 37 #[.val (.int p1)] [(.int (1 : Int32))])) _
            refine XS.goto X0.here hx rfl (pc0 := 37) (pc' := 41) rfl (hb hby own_d_prog_13_method_10_code_37) (by decide) (by decide) ?_
            show Steps p.tables e below (s₁.setTop (mkF m 41 #[.val (.int p1)] [(.int (1 : Int32))])) _
            exact retN X0 hx (t := .boolean) Bd.returns (by simp) (hb hby own_d_prog_13_method_10_code_41) hr
          · show PQ (some (.int (own_f_rm12 p1))) h0 n0 _ s₁.heap _
            rw [e0]
            exact ⟨congrArg (fun z => some (Value.int z)) (by unfold own_f_rm12; rw [if_pos hc3_33, if_pos hc15_35, if_neg hc27_37, if_neg hc33_39]), N0, rfl⟩
    · have pre40 : ∀ t, Steps p.tables e below (s₁.setTop (mkF m 21 #[.val (.int p1)] [(.int (102 : Int32)), (.int p1)])) t → Steps p.tables e below (s₁.setTop (entryFrame m #[(.int p1)] 1)) t := fun t k => pre34 t (by
        show Steps p.tables e below (s₁.setTop (mkF m 15 #[.val (.int p1)] [(.int (97 : Int32)), (.int p1)])) _
        refine XS.icmpNo X0.here hx rfl (hb hby own_d_prog_13_method_10_code_15) rfl (flt hc15_35).1 ?_
        show Steps p.tables e below (s₁.setTop (mkF m 18 #[.val (.int p1)] [])) _
        refine XS.iloadN X0.here hx rfl (hb hby own_d_prog_13_method_10_code_18) rfl ?_
        show Steps p.tables e below (s₁.setTop (mkF m 19 #[.val (.int p1)] [(.int p1)])) _
        refine XS.bipush X0.here hx rfl (hb hby own_d_prog_13_method_10_code_19) ?_
        exact k)
      by_cases hc21_41 : (102 : Int32) < p1
      · have pre42 : ∀ t, Steps p.tables e below (s₁.setTop (mkF m 27 #[.val (.int p1)] [(.int (65 : Int32)), (.int p1)])) t → Steps p.tables e below (s₁.setTop (entryFrame m #[(.int p1)] 1)) t := fun t k => pre40 t (by
          show Steps p.tables e below (s₁.setTop (mkF m 21 #[.val (.int p1)] [(.int (102 : Int32)), (.int p1)])) _
          refine XS.icmpNo X0.here hx rfl (hb hby own_d_prog_13_method_10_code_21) rfl (tlt hc21_41).2.2.2 ?_
          show Steps p.tables e below (s₁.setTop (mkF m 24 #[.val (.int p1)] [])) _
          refine XS.iloadN X0.here hx rfl (hb hby own_d_prog_13_method_10_code_24) rfl ?_
          show Steps p.tables e below (s₁.setTop (mkF m 25 #[.val (.int p1)] [(.int p1)])) _
          refine XS.bipush X0.here hx rfl (hb hby own_d_prog_13_method_10_code_25) ?_
          exact k)
        by_cases hc27_43 : p1 < (65 : Int32)
        · obtain ⟨fs, hr, hrun, hended, hW, hsame⟩ := X0.leave (v := some (.int (0 : Int32))) (fun h => by rw [Bd.returns] at h; cases h)
          refine ⟨_, _, pre42 _ ?_, hrun, hended, _, _, rfl, ?_, ⟨_, rfl⟩, hW, hsame.mono (by decide) (by decide)⟩
          · show Steps p.tables e below (s₁.setTop (mkF m 27 #[.val (.int p1)] [(.int (65 : Int32)), (.int p1)])) _
            refine XS.icmpYes X0.here hx rfl (pc0 := 27) (pc' := 40) rfl (hb hby own_d_prog_13_method_10_code_27) rfl (tlt hc27_43).1 (by decide) (by decide) ?_
            show Steps p.tables e below (s₁.setTop (mkF m 40 #[.val (.int p1)] [])) _
            refine XS.iconst X0.here hx rfl (hb hby own_d_prog_13_method_10_code_40) ?_
            show Steps p.tables e below (s₁.setTop (mkF m 41 #[.val (.int p1)] [(.int (0 : Int32))])) _
            exact retN X0 hx (t := .boolean) Bd.returns (by simp) (hb hby own_d_prog_13_method_10_code_41) hr
          · show PQ (some (.int (own_f_rm12 p1))) h0 n0 _ s₁.heap _
            rw [e0]
            exact ⟨congrArg (fun z => some (Value.int z)) (by unfold own_f_rm12; rw [if_pos hc3_33, if_neg hc15_35, if_pos hc21_41, if_pos hc27_43]), N0, rfl⟩
        · have pre44 : ∀ t, Steps p.tables e below (s₁.setTop (mkF m 33 #[.val (.int p1)] [(.int (70 : Int32)), (.int p1)])) t → Steps p.tables e below (s₁.setTop (entryFrame m #[(.int p1)] 1)) t := fun t k => pre42 t (by
            show Steps p.tables e below (s₁.setTop (mkF m 27 #[.val (.int p1)] [(.int (65 : Int32)), (.int p1)])) _
            refine XS.icmpNo X0.here hx rfl (hb hby own_d_prog_13_method_10_code_27) rfl (flt hc27_43).1 ?_
            show Steps p.tables e below (s₁.setTop (mkF m 30 #[.val (.int p1)] [])) _
            refine XS.iloadN X0.here hx rfl (hb hby own_d_prog_13_method_10_code_30) rfl ?_
            show Steps p.tables e below (s₁.setTop (mkF m 31 #[.val (.int p1)] [(.int p1)])) _
            refine XS.bipush X0.here hx rfl (hb hby own_d_prog_13_method_10_code_31) ?_
            exact k)
          by_cases hc33_45 : (70 : Int32) < p1
          · obtain ⟨fs, hr, hrun, hended, hW, hsame⟩ := X0.leave (v := some (.int (0 : Int32))) (fun h => by rw [Bd.returns] at h; cases h)
            refine ⟨_, _, pre44 _ ?_, hrun, hended, _, _, rfl, ?_, ⟨_, rfl⟩, hW, hsame.mono (by decide) (by decide)⟩
            · show Steps p.tables e below (s₁.setTop (mkF m 33 #[.val (.int p1)] [(.int (70 : Int32)), (.int p1)])) _
              refine XS.icmpYes X0.here hx rfl (pc0 := 33) (pc' := 40) rfl (hb hby own_d_prog_13_method_10_code_33) rfl (tlt hc33_45).2.2.1 (by decide) (by decide) ?_
              show Steps p.tables e below (s₁.setTop (mkF m 40 #[.val (.int p1)] [])) _
              refine XS.iconst X0.here hx rfl (hb hby own_d_prog_13_method_10_code_40) ?_
              show Steps p.tables e below (s₁.setTop (mkF m 41 #[.val (.int p1)] [(.int (0 : Int32))])) _
              exact retN X0 hx (t := .boolean) Bd.returns (by simp) (hb hby own_d_prog_13_method_10_code_41) hr
            · show PQ (some (.int (own_f_rm12 p1))) h0 n0 _ s₁.heap _
              rw [e0]
              exact ⟨congrArg (fun z => some (Value.int z)) (by unfold own_f_rm12; rw [if_pos hc3_33, if_neg hc15_35, if_pos hc21_41, if_neg hc27_43, if_pos hc33_45]), N0, rfl⟩
          · obtain ⟨fs, hr, hrun, hended, hW, hsame⟩ := X0.leave (v := some (.int (1 : Int32))) (fun h => by rw [Bd.returns] at h; cases h)
            refine ⟨_, _, pre44 _ ?_, hrun, hended, _, _, rfl, ?_, ⟨_, rfl⟩, hW, hsame.mono (by decide) (by decide)⟩
            · show Steps p.tables e below (s₁.setTop (mkF m 33 #[.val (.int p1)] [(.int (70 : Int32)), (.int p1)])) _
              refine XS.icmpNo X0.here hx rfl (hb hby own_d_prog_13_method_10_code_33) rfl (flt hc33_45).2.2.1 ?_
              show Steps p.tables e below (s₁.setTop (mkF m 36 #[.val (.int p1)] [])) _
              refine XS.iconst X0.here hx rfl (hb hby own_d_prog_13_method_10_code_36) ?_
              show Steps p.tables e below (s₁.setTop (mkF m 37 #[.val (.int p1)] [(.int (1 : Int32))])) _
              refine XS.goto X0.here hx rfl (pc0 := 37) (pc' := 41) rfl (hb hby own_d_prog_13_method_10_code_37) (by decide) (by decide) ?_
              show Steps p.tables e below (s₁.setTop (mkF m 41 #[.val (.int p1)] [(.int (1 : Int32))])) _
              exact retN X0 hx (t := .boolean) Bd.returns (by simp) (hb hby own_d_prog_13_method_10_code_41) hr
            · show PQ (some (.int (own_f_rm12 p1))) h0 n0 _ s₁.heap _
              rw [e0]
              exact ⟨congrArg (fun z => some (Value.int z)) (by unfold own_f_rm12; rw [if_pos hc3_33, if_neg hc15_35, if_pos hc21_41, if_neg hc27_43, if_neg hc33_45]), N0, rfl⟩
      · obtain ⟨fs, hr, hrun, hended, hW, hsame⟩ := X0.leave (v := some (.int (1 : Int32))) (fun h => by rw [Bd.returns] at h; cases h)
        refine ⟨_, _, pre40 _ ?_, hrun, hended, _, _, rfl, ?_, ⟨_, rfl⟩, hW, hsame.mono (by decide) (by decide)⟩
        · show Steps p.tables e below (s₁.setTop (mkF m 21 #[.val (.int p1)] [(.int (102 : Int32)), (.int p1)])) _
          refine XS.icmpYes X0.here hx rfl (pc0 := 21) (pc' := 36) rfl (hb hby own_d_prog_13_method_10_code_21) rfl (flt hc21_41).2.2.2 (by decide) (by decide) ?_
          show Steps p.tables e below (s₁.setTop (mkF m 36 #[.val (.int p1)] [])) _
          refine XS.iconst X0.here hx rfl (hb hby own_d_prog_13_method_10_code_36) ?_
          show Steps p.tables e below (s₁.setTop (mkF m 37 #[.val (.int p1)] [(.int (1 : Int32))])) _
          refine XS.goto X0.here hx rfl (pc0 := 37) (pc' := 41) rfl (hb hby own_d_prog_13_method_10_code_37) (by decide) (by decide) ?_
          show Steps p.tables e below (s₁.setTop (mkF m 41 #[.val (.int p1)] [(.int (1 : Int32))])) _
          exact retN X0 hx (t := .boolean) Bd.returns (by simp) (hb hby own_d_prog_13_method_10_code_41) hr
        · show PQ (some (.int (own_f_rm12 p1))) h0 n0 _ s₁.heap _
          rw [e0]
          exact ⟨congrArg (fun z => some (Value.int z)) (by unfold own_f_rm12; rw [if_pos hc3_33, if_neg hc15_35, if_neg hc21_41]), N0, rfl⟩
  · have pre46 : ∀ t, Steps p.tables e below (s₁.setTop (mkF m 9 #[.val (.int p1)] [(.int (57 : Int32)), (.int p1)])) t → Steps p.tables e below (s₁.setTop (entryFrame m #[(.int p1)] 1)) t := fun t k => pre32 t (by
      show Steps p.tables e below (s₁.setTop (mkF m 3 #[.val (.int p1)] [(.int (48 : Int32)), (.int p1)])) _
      refine XS.icmpNo X0.here hx rfl (hb hby own_d_prog_13_method_10_code_3) rfl (flt hc3_33).1 ?_
      show Steps p.tables e below (s₁.setTop (mkF m 6 #[.val (.int p1)] [])) _
      refine XS.iloadN X0.here hx rfl (hb hby own_d_prog_13_method_10_code_6) rfl ?_
      show Steps p.tables e below (s₁.setTop (mkF m 7 #[.val (.int p1)] [(.int p1)])) _
      refine XS.bipush X0.here hx rfl (hb hby own_d_prog_13_method_10_code_7) ?_
      exact k)
    by_cases hc9_47 : (57 : Int32) < p1
    · have pre48 : ∀ t, Steps p.tables e below (s₁.setTop (mkF m 15 #[.val (.int p1)] [(.int (97 : Int32)), (.int p1)])) t → Steps p.tables e below (s₁.setTop (entryFrame m #[(.int p1)] 1)) t := fun t k => pre46 t (by
        show Steps p.tables e below (s₁.setTop (mkF m 9 #[.val (.int p1)] [(.int (57 : Int32)), (.int p1)])) _
        refine XS.icmpNo X0.here hx rfl (hb hby own_d_prog_13_method_10_code_9) rfl (tlt hc9_47).2.2.2 ?_
        show Steps p.tables e below (s₁.setTop (mkF m 12 #[.val (.int p1)] [])) _
        refine XS.iloadN X0.here hx rfl (hb hby own_d_prog_13_method_10_code_12) rfl ?_
        show Steps p.tables e below (s₁.setTop (mkF m 13 #[.val (.int p1)] [(.int p1)])) _
        refine XS.bipush X0.here hx rfl (hb hby own_d_prog_13_method_10_code_13) ?_
        exact k)
      by_cases hc15_49 : p1 < (97 : Int32)
      · have pre50 : ∀ t, Steps p.tables e below (s₁.setTop (mkF m 27 #[.val (.int p1)] [(.int (65 : Int32)), (.int p1)])) t → Steps p.tables e below (s₁.setTop (entryFrame m #[(.int p1)] 1)) t := fun t k => pre48 t (by
          show Steps p.tables e below (s₁.setTop (mkF m 15 #[.val (.int p1)] [(.int (97 : Int32)), (.int p1)])) _
          refine XS.icmpYes X0.here hx rfl (pc0 := 15) (pc' := 24) rfl (hb hby own_d_prog_13_method_10_code_15) rfl (tlt hc15_49).1 (by decide) (by decide) ?_
          show Steps p.tables e below (s₁.setTop (mkF m 24 #[.val (.int p1)] [])) _
          refine XS.iloadN X0.here hx rfl (hb hby own_d_prog_13_method_10_code_24) rfl ?_
          show Steps p.tables e below (s₁.setTop (mkF m 25 #[.val (.int p1)] [(.int p1)])) _
          refine XS.bipush X0.here hx rfl (hb hby own_d_prog_13_method_10_code_25) ?_
          exact k)
        by_cases hc27_51 : p1 < (65 : Int32)
        · obtain ⟨fs, hr, hrun, hended, hW, hsame⟩ := X0.leave (v := some (.int (0 : Int32))) (fun h => by rw [Bd.returns] at h; cases h)
          refine ⟨_, _, pre50 _ ?_, hrun, hended, _, _, rfl, ?_, ⟨_, rfl⟩, hW, hsame.mono (by decide) (by decide)⟩
          · show Steps p.tables e below (s₁.setTop (mkF m 27 #[.val (.int p1)] [(.int (65 : Int32)), (.int p1)])) _
            refine XS.icmpYes X0.here hx rfl (pc0 := 27) (pc' := 40) rfl (hb hby own_d_prog_13_method_10_code_27) rfl (tlt hc27_51).1 (by decide) (by decide) ?_
            show Steps p.tables e below (s₁.setTop (mkF m 40 #[.val (.int p1)] [])) _
            refine XS.iconst X0.here hx rfl (hb hby own_d_prog_13_method_10_code_40) ?_
            show Steps p.tables e below (s₁.setTop (mkF m 41 #[.val (.int p1)] [(.int (0 : Int32))])) _
            exact retN X0 hx (t := .boolean) Bd.returns (by simp) (hb hby own_d_prog_13_method_10_code_41) hr
          · show PQ (some (.int (own_f_rm12 p1))) h0 n0 _ s₁.heap _
            rw [e0]
            exact ⟨congrArg (fun z => some (Value.int z)) (by unfold own_f_rm12; rw [if_neg hc3_33, if_pos hc9_47, if_pos hc15_49, if_pos hc27_51]), N0, rfl⟩
        · have pre52 : ∀ t, Steps p.tables e below (s₁.setTop (mkF m 33 #[.val (.int p1)] [(.int (70 : Int32)), (.int p1)])) t → Steps p.tables e below (s₁.setTop (entryFrame m #[(.int p1)] 1)) t := fun t k => pre50 t (by
            show Steps p.tables e below (s₁.setTop (mkF m 27 #[.val (.int p1)] [(.int (65 : Int32)), (.int p1)])) _
            refine XS.icmpNo X0.here hx rfl (hb hby own_d_prog_13_method_10_code_27) rfl (flt hc27_51).1 ?_
            show Steps p.tables e below (s₁.setTop (mkF m 30 #[.val (.int p1)] [])) _
            refine XS.iloadN X0.here hx rfl (hb hby own_d_prog_13_method_10_code_30) rfl ?_
            show Steps p.tables e below (s₁.setTop (mkF m 31 #[.val (.int p1)] [(.int p1)])) _
            refine XS.bipush X0.here hx rfl (hb hby own_d_prog_13_method_10_code_31) ?_
            exact k)
          by_cases hc33_53 : (70 : Int32) < p1
          · obtain ⟨fs, hr, hrun, hended, hW, hsame⟩ := X0.leave (v := some (.int (0 : Int32))) (fun h => by rw [Bd.returns] at h; cases h)
            refine ⟨_, _, pre52 _ ?_, hrun, hended, _, _, rfl, ?_, ⟨_, rfl⟩, hW, hsame.mono (by decide) (by decide)⟩
            · show Steps p.tables e below (s₁.setTop (mkF m 33 #[.val (.int p1)] [(.int (70 : Int32)), (.int p1)])) _
              refine XS.icmpYes X0.here hx rfl (pc0 := 33) (pc' := 40) rfl (hb hby own_d_prog_13_method_10_code_33) rfl (tlt hc33_53).2.2.1 (by decide) (by decide) ?_
              show Steps p.tables e below (s₁.setTop (mkF m 40 #[.val (.int p1)] [])) _
              refine XS.iconst X0.here hx rfl (hb hby own_d_prog_13_method_10_code_40) ?_
              show Steps p.tables e below (s₁.setTop (mkF m 41 #[.val (.int p1)] [(.int (0 : Int32))])) _
              exact retN X0 hx (t := .boolean) Bd.returns (by simp) (hb hby own_d_prog_13_method_10_code_41) hr
            · show PQ (some (.int (own_f_rm12 p1))) h0 n0 _ s₁.heap _
              rw [e0]
              exact ⟨congrArg (fun z => some (Value.int z)) (by unfold own_f_rm12; rw [if_neg hc3_33, if_pos hc9_47, if_pos hc15_49, if_neg hc27_51, if_pos hc33_53]), N0, rfl⟩
          · obtain ⟨fs, hr, hrun, hended, hW, hsame⟩ := X0.leave (v := some (.int (1 : Int32))) (fun h => by rw [Bd.returns] at h; cases h)
            refine ⟨_, _, pre52 _ ?_, hrun, hended, _, _, rfl, ?_, ⟨_, rfl⟩, hW, hsame.mono (by decide) (by decide)⟩
            · show Steps p.tables e below (s₁.setTop (mkF m 33 #[.val (.int p1)] [(.int (70 : Int32)), (.int p1)])) _
              refine XS.icmpNo X0.here hx rfl (hb hby own_d_prog_13_method_10_code_33) rfl (flt hc33_53).2.2.1 ?_
              show Steps p.tables e below (s₁.setTop (mkF m 36 #[.val (.int p1)] [])) _
              refine XS.iconst X0.here hx rfl (hb hby own_d_prog_13_method_10_code_36) ?_
              show Steps p.tables e below (s₁.setTop (mkF m 37 #[.val (.int p1)] [(.int (1 : Int32))])) _
              refine XS.goto X0.here hx rfl (pc0 := 37) (pc' := 41) rfl (hb hby own_d_prog_13_method_10_code_37) (by decide) (by decide) ?_
              show Steps p.tables e below (s₁.setTop (mkF m 41 #[.val (.int p1)] [(.int (1 : Int32))])) _
              exact retN X0 hx (t := .boolean) Bd.returns (by simp) (hb hby own_d_prog_13_method_10_code_41) hr
            · show PQ (some (.int (own_f_rm12 p1))) h0 n0 _ s₁.heap _
              rw [e0]
              exact ⟨congrArg (fun z => some (Value.int z)) (by unfold own_f_rm12; rw [if_neg hc3_33, if_pos hc9_47, if_pos hc15_49, if_neg hc27_51, if_neg hc33_53]), N0, rfl⟩
      · have pre54 : ∀ t, Steps p.tables e below (s₁.setTop (mkF m 21 #[.val (.int p1)] [(.int (102 : Int32)), (.int p1)])) t → Steps p.tables e below (s₁.setTop (entryFrame m #[(.int p1)] 1)) t := fun t k => pre48 t (by
          show Steps p.tables e below (s₁.setTop (mkF m 15 #[.val (.int p1)] [(.int (97 : Int32)), (.int p1)])) _
          refine XS.icmpNo X0.here hx rfl (hb hby own_d_prog_13_method_10_code_15) rfl (flt hc15_49).1 ?_
          show Steps p.tables e below (s₁.setTop (mkF m 18 #[.val (.int p1)] [])) _
          refine XS.iloadN X0.here hx rfl (hb hby own_d_prog_13_method_10_code_18) rfl ?_
          show Steps p.tables e below (s₁.setTop (mkF m 19 #[.val (.int p1)] [(.int p1)])) _
          refine XS.bipush X0.here hx rfl (hb hby own_d_prog_13_method_10_code_19) ?_
          exact k)
        by_cases hc21_55 : (102 : Int32) < p1
        · have pre56 : ∀ t, Steps p.tables e below (s₁.setTop (mkF m 27 #[.val (.int p1)] [(.int (65 : Int32)), (.int p1)])) t → Steps p.tables e below (s₁.setTop (entryFrame m #[(.int p1)] 1)) t := fun t k => pre54 t (by
            show Steps p.tables e below (s₁.setTop (mkF m 21 #[.val (.int p1)] [(.int (102 : Int32)), (.int p1)])) _
            refine XS.icmpNo X0.here hx rfl (hb hby own_d_prog_13_method_10_code_21) rfl (tlt hc21_55).2.2.2 ?_
            show Steps p.tables e below (s₁.setTop (mkF m 24 #[.val (.int p1)] [])) _
            refine XS.iloadN X0.here hx rfl (hb hby own_d_prog_13_method_10_code_24) rfl ?_
            show Steps p.tables e below (s₁.setTop (mkF m 25 #[.val (.int p1)] [(.int p1)])) _
            refine XS.bipush X0.here hx rfl (hb hby own_d_prog_13_method_10_code_25) ?_
            exact k)
          by_cases hc27_57 : p1 < (65 : Int32)
          · obtain ⟨fs, hr, hrun, hended, hW, hsame⟩ := X0.leave (v := some (.int (0 : Int32))) (fun h => by rw [Bd.returns] at h; cases h)
            refine ⟨_, _, pre56 _ ?_, hrun, hended, _, _, rfl, ?_, ⟨_, rfl⟩, hW, hsame.mono (by decide) (by decide)⟩
            · show Steps p.tables e below (s₁.setTop (mkF m 27 #[.val (.int p1)] [(.int (65 : Int32)), (.int p1)])) _
              refine XS.icmpYes X0.here hx rfl (pc0 := 27) (pc' := 40) rfl (hb hby own_d_prog_13_method_10_code_27) rfl (tlt hc27_57).1 (by decide) (by decide) ?_
              show Steps p.tables e below (s₁.setTop (mkF m 40 #[.val (.int p1)] [])) _
              refine XS.iconst X0.here hx rfl (hb hby own_d_prog_13_method_10_code_40) ?_
              show Steps p.tables e below (s₁.setTop (mkF m 41 #[.val (.int p1)] [(.int (0 : Int32))])) _
              exact retN X0 hx (t := .boolean) Bd.returns (by simp) (hb hby own_d_prog_13_method_10_code_41) hr
            · show PQ (some (.int (own_f_rm12 p1))) h0 n0 _ s₁.heap _
              rw [e0]
              exact ⟨congrArg (fun z => some (Value.int z)) (by unfold own_f_rm12; rw [if_neg hc3_33, if_pos hc9_47, if_neg hc15_49, if_pos hc21_55, if_pos hc27_57]), N0, rfl⟩
          · have pre58 : ∀ t, Steps p.tables e below (s₁.setTop (mkF m 33 #[.val (.int p1)] [(.int (70 : Int32)), (.int p1)])) t → Steps p.tables e below (s₁.setTop (entryFrame m #[(.int p1)] 1)) t := fun t k => pre56 t (by
              show Steps p.tables e below (s₁.setTop (mkF m 27 #[.val (.int p1)] [(.int (65 : Int32)), (.int p1)])) _
              refine XS.icmpNo X0.here hx rfl (hb hby own_d_prog_13_method_10_code_27) rfl (flt hc27_57).1 ?_
              show Steps p.tables e below (s₁.setTop (mkF m 30 #[.val (.int p1)] [])) _
              refine XS.iloadN X0.here hx rfl (hb hby own_d_prog_13_method_10_code_30) rfl ?_
              show Steps p.tables e below (s₁.setTop (mkF m 31 #[.val (.int p1)] [(.int p1)])) _
              refine XS.bipush X0.here hx rfl (hb hby own_d_prog_13_method_10_code_31) ?_
              exact k)
            by_cases hc33_59 : (70 : Int32) < p1
            · obtain ⟨fs, hr, hrun, hended, hW, hsame⟩ := X0.leave (v := some (.int (0 : Int32))) (fun h => by rw [Bd.returns] at h; cases h)
              refine ⟨_, _, pre58 _ ?_, hrun, hended, _, _, rfl, ?_, ⟨_, rfl⟩, hW, hsame.mono (by decide) (by decide)⟩
              · show Steps p.tables e below (s₁.setTop (mkF m 33 #[.val (.int p1)] [(.int (70 : Int32)), (.int p1)])) _
                refine XS.icmpYes X0.here hx rfl (pc0 := 33) (pc' := 40) rfl (hb hby own_d_prog_13_method_10_code_33) rfl (tlt hc33_59).2.2.1 (by decide) (by decide) ?_
                show Steps p.tables e below (s₁.setTop (mkF m 40 #[.val (.int p1)] [])) _
                refine XS.iconst X0.here hx rfl (hb hby own_d_prog_13_method_10_code_40) ?_
                show Steps p.tables e below (s₁.setTop (mkF m 41 #[.val (.int p1)] [(.int (0 : Int32))])) _
                exact retN X0 hx (t := .boolean) Bd.returns (by simp) (hb hby own_d_prog_13_method_10_code_41) hr
              · show PQ (some (.int (own_f_rm12 p1))) h0 n0 _ s₁.heap _
                rw [e0]
                exact ⟨congrArg (fun z => some (Value.int z)) (by unfold own_f_rm12; rw [if_neg hc3_33, if_pos hc9_47, if_neg hc15_49, if_pos hc21_55, if_neg hc27_57, if_pos hc33_59]), N0, rfl⟩
            · obtain ⟨fs, hr, hrun, hended, hW, hsame⟩ := X0.leave (v := some (.int (1 : Int32))) (fun h => by rw [Bd.returns] at h; cases h)
              refine ⟨_, _, pre58 _ ?_, hrun, hended, _, _, rfl, ?_, ⟨_, rfl⟩, hW, hsame.mono (by decide) (by decide)⟩
              · show Steps p.tables e below (s₁.setTop (mkF m 33 #[.val (.int p1)] [(.int (70 : Int32)), (.int p1)])) _
                refine XS.icmpNo X0.here hx rfl (hb hby own_d_prog_13_method_10_code_33) rfl (flt hc33_59).2.2.1 ?_
                show Steps p.tables e below (s₁.setTop (mkF m 36 #[.val (.int p1)] [])) _
                refine XS.iconst X0.here hx rfl (hb hby own_d_prog_13_method_10_code_36) ?_
                show Steps p.tables e below (s₁.setTop (mkF m 37 #[.val (.int p1)] [(.int (1 : Int32))])) _
                refine XS.goto X0.here hx rfl (pc0 := 37) (pc' := 41) rfl (hb hby own_d_prog_13_method_10_code_37) (by decide) (by decide) ?_
                show Steps p.tables e below (s₁.setTop (mkF m 41 #[.val (.int p1)] [(.int (1 : Int32))])) _
                exact retN X0 hx (t := .boolean) Bd.returns (by simp) (hb hby own_d_prog_13_method_10_code_41) hr
              · show PQ (some (.int (own_f_rm12 p1))) h0 n0 _ s₁.heap _
                rw [e0]
                exact ⟨congrArg (fun z => some (Value.int z)) (by unfold own_f_rm12; rw [if_neg hc3_33, if_pos hc9_47, if_neg hc15_49, if_pos hc21_55, if_neg hc27_57, if_neg hc33_59]), N0, rfl⟩
        · obtain ⟨fs, hr, hrun, hended, hW, hsame⟩ := X0.leave (v := some (.int (1 : Int32))) (fun h => by rw [Bd.returns] at h; cases h)
          refine ⟨_, _, pre54 _ ?_, hrun, hended, _, _, rfl, ?_, ⟨_, rfl⟩, hW, hsame.mono (by decide) (by decide)⟩
          · show Steps p.tables e below (s₁.setTop (mkF m 21 #[.val (.int p1)] [(.int (102 : Int32)), (.int p1)])) _
            refine XS.icmpYes X0.here hx rfl (pc0 := 21) (pc' := 36) rfl (hb hby own_d_prog_13_method_10_code_21) rfl (flt hc21_55).2.2.2 (by decide) (by decide) ?_
            show Steps p.tables e below (s₁.setTop (mkF m 36 #[.val (.int p1)] [])) _
            refine XS.iconst X0.here hx rfl (hb hby own_d_prog_13_method_10_code_36) ?_
            show Steps p.tables e below (s₁.setTop (mkF m 37 #[.val (.int p1)] [(.int (1 : Int32))])) _
            refine XS.goto X0.here hx rfl (pc0 := 37) (pc' := 41) rfl (hb hby own_d_prog_13_method_10_code_37) (by decide) (by decide) ?_
            show Steps p.tables e below (s₁.setTop (mkF m 41 #[.val (.int p1)] [(.int (1 : Int32))])) _
            exact retN X0 hx (t := .boolean) Bd.returns (by simp) (hb hby own_d_prog_13_method_10_code_41) hr
          · show PQ (some (.int (own_f_rm12 p1))) h0 n0 _ s₁.heap _
            rw [e0]
            exact ⟨congrArg (fun z => some (Value.int z)) (by unfold own_f_rm12; rw [if_neg hc3_33, if_pos hc9_47, if_neg hc15_49, if_neg hc21_55]), N0, rfl⟩
    · obtain ⟨fs, hr, hrun, hended, hW, hsame⟩ := X0.leave (v := some (.int (1 : Int32))) (fun h => by rw [Bd.returns] at h; cases h)
      refine ⟨_, _, pre46 _ ?_, hrun, hended, _, _, rfl, ?_, ⟨_, rfl⟩, hW, hsame.mono (by decide) (by decide)⟩
      · show Steps p.tables e below (s₁.setTop (mkF m 9 #[.val (.int p1)] [(.int (57 : Int32)), (.int p1)])) _
        refine XS.icmpYes X0.here hx rfl (pc0 := 9) (pc' := 36) rfl (hb hby own_d_prog_13_method_10_code_9) rfl (flt hc9_47).2.2.2 (by decide) (by decide) ?_
        show Steps p.tables e below (s₁.setTop (mkF m 36 #[.val (.int p1)] [])) _
        refine XS.iconst X0.here hx rfl (hb hby own_d_prog_13_method_10_code_36) ?_
        show Steps p.tables e below (s₁.setTop (mkF m 37 #[.val (.int p1)] [(.int (1 : Int32))])) _
        refine XS.goto X0.here hx rfl (pc0 := 37) (pc' := 41) rfl (hb hby own_d_prog_13_method_10_code_37) (by decide) (by decide) ?_
        show Steps p.tables e below (s₁.setTop (mkF m 41 #[.val (.int p1)] [(.int (1 : Int32))])) _
        exact retN X0 hx (t := .boolean) Bd.returns (by simp) (hb hby own_d_prog_13_method_10_code_41) hr
      · show PQ (some (.int (own_f_rm12 p1))) h0 n0 _ s₁.heap _
        rw [e0]
        exact ⟨congrArg (fun z => some (Value.int z)) (by unfold own_f_rm12; rw [if_neg hc3_33, if_neg hc9_47]), N0, rfl⟩
theorem own_d_method_2_code_0 : decode method_2_code 0 = .ok (.iload_n 0, 1) := by decide +kernel
theorem own_d_method_2_code_1 : decode method_2_code 1 = .ok (.bipush 48, 2) := by decide +kernel
theorem own_d_method_2_code_3 : decode method_2_code 3 = .ok (.if_icmp .lt 13, 3) := by decide +kernel
theorem own_d_method_2_code_6 : decode method_2_code 6 = .ok (.iload_n 0, 1) := by decide +kernel
theorem own_d_method_2_code_7 : decode method_2_code 7 = .ok (.bipush 57, 2) := by decide +kernel
theorem own_d_method_2_code_9 : decode method_2_code 9 = .ok (.if_icmp .gt 7, 3) := by decide +kernel
theorem own_d_method_2_code_12 : decode method_2_code 12 = .ok (.iconst 1, 1) := by decide +kernel
theorem own_d_method_2_code_13 : decode method_2_code 13 = .ok (.goto 4, 3) := by decide +kernel
theorem own_d_method_2_code_16 : decode method_2_code 16 = .ok (.iconst 0, 1) := by decide +kernel
theorem own_d_method_2_code_17 : decode method_2_code 17 = .ok (.istore_n 1, 1) := by decide +kernel
theorem own_d_method_2_code_18 : decode method_2_code 18 = .ok (.iload_n 0, 1) := by decide +kernel
theorem own_d_method_2_code_19 : decode method_2_code 19 = .ok (.bipush 32, 2) := by decide +kernel
theorem own_d_method_2_code_21 : decode method_2_code 21 = .ok (.ior, 1) := by decide +kernel
theorem own_d_method_2_code_22 : decode method_2_code 22 = .ok (.istore_n 2, 1) := by decide +kernel
theorem own_d_method_2_code_23 : decode method_2_code 23 = .ok (.iload_n 2, 1) := by decide +kernel
theorem own_d_method_2_code_24 : decode method_2_code 24 = .ok (.bipush 97, 2) := by decide +kernel
theorem own_d_method_2_code_26 : decode method_2_code 26 = .ok (.if_icmp .lt 13, 3) := by decide +kernel
theorem own_d_method_2_code_29 : decode method_2_code 29 = .ok (.iload_n 2, 1) := by decide +kernel
theorem own_d_method_2_code_30 : decode method_2_code 30 = .ok (.bipush 102, 2) := by decide +kernel
theorem own_d_method_2_code_32 : decode method_2_code 32 = .ok (.if_icmp .gt 7, 3) := by decide +kernel
theorem own_d_method_2_code_35 : decode method_2_code 35 = .ok (.iconst 1, 1) := by decide +kernel
theorem own_d_method_2_code_36 : decode method_2_code 36 = .ok (.goto 4, 3) := by decide +kernel
theorem own_d_method_2_code_39 : decode method_2_code 39 = .ok (.iconst 0, 1) := by decide +kernel
theorem own_d_method_2_code_40 : decode method_2_code 40 = .ok (.istore_n 3, 1) := by decide +kernel
theorem own_d_method_2_code_41 : decode method_2_code 41 = .ok (.iload_n 1, 1) := by decide +kernel
theorem own_d_method_2_code_42 : decode method_2_code 42 = .ok (.ifCond .ne 7, 3) := by decide +kernel
theorem own_d_method_2_code_45 : decode method_2_code 45 = .ok (.iload_n 3, 1) := by decide +kernel
theorem own_d_method_2_code_46 : decode method_2_code 46 = .ok (.ifCond .eq 7, 3) := by decide +kernel
theorem own_d_method_2_code_49 : decode method_2_code 49 = .ok (.iconst 1, 1) := by decide +kernel
theorem own_d_method_2_code_50 : decode method_2_code 50 = .ok (.goto 4, 3) := by decide +kernel
theorem own_d_method_2_code_53 : decode method_2_code 53 = .ok (.iconst 0, 1) := by decide +kernel
theorem own_d_method_2_code_54 : decode method_2_code 54 = .ok (.ireturn, 1) := by decide +kernel
theorem own_pn4 : plainName "com/example/makusanyo/makusanyo/PercentEscapesHexDigitPinLaw" = true := by first | (simp [plainName, overriddenIn]; done) | decide +kernel
theorem own_ef_rm13 (m : MethodId) (p1 : Int32) (p2 : Int32) (p3 : Int32) (A : Nat → Addr) (K : Nat → ClassId) (cs : Int32)  : entryFrame m #[(.int p1)] 4 = mkF m 0 #[.val (.int p1), .unset, .unset, .unset] [] := by first | (simp [entryFrame, mkF, argsToLocals, Value.category, maxLocals]; done) | rfl
def own_f_rm13 (p1 : Int32) : Int32 := if p1 < (48 : Int32) then (if (p1 ||| (32 : Int32)) < (97 : Int32) then (0 : Int32)
    else if (102 : Int32) < (p1 ||| (32 : Int32)) then (0 : Int32)
      else (1 : Int32))
  else if (57 : Int32) < p1 then (if (p1 ||| (32 : Int32)) < (97 : Int32) then (0 : Int32)
      else if (102 : Int32) < (p1 ||| (32 : Int32)) then (0 : Int32)
        else (1 : Int32))
    else if (p1 ||| (32 : Int32)) < (97 : Int32) then (1 : Int32)
      else if (102 : Int32) < (p1 ||| (32 : Int32)) then (1 : Int32)
        else (1 : Int32)
set_option maxRecDepth 65536 in
set_option maxHeartbeats 40000000 in
theorem rm13 (l : Launch) (Z : State) (a0 : Array Value) (hw : ∀ d ∈ tables_1, d.before a0 Z = true) (ws : List Jvm.Cond) (h0 : Heap) (n0 : Nat) (p1 : Int32) (p2 : Int32) (p3 : Int32) (A : Nat → Addr) (K : Nat → ClassId) (cs : Int32)  (EN : own_St Z A K cs) (OL0 : Old Z n0 h0) :
    MetFree l own_m6 (head1 (Jvm.Cond.code own_m6 method_2_code 4 (some .boolean) :: ws) ({ frames := 0, cells := 0, slots := 0, locals := 0 } : Room)) (fun a U => a = #[(.int p1)] ∧ Z.Warmed39 U.vm ∧ U.heap = h0) (fun _ _ _ _ _ => True) (fun _ U o U' => ∃ v L, o = .returned v ∧ (PQ (some (.int (own_f_rm13 p1))) h0 n0) v U'.heap L ∧ FrameEnd U o U' L ({ frames := 0, cells := 0, slots := 0, locals := 0 } : Room).cells ({ frames := 0, cells := 0, slots := 0, locals := 0 } : Room).slots) := by
  refine MetFree.of_bodySF (plainFor_of_name own_pn4) hisR ?_
  intro p e s m args below meth c s₁ Bd hml0 hP hK
  obtain ⟨rfl, hZ, hh⟩ := hP
  have hx := Bd.exec
  have hby := Bd.bytes
  have hml : c.maxLocals = 4 := hml0
  have hown : s.vm.findClass "com/example/makusanyo/makusanyo/PercentEscapesHexDigitPinLaw" = some m.cls := findClass_of_methodNamed Bd.named
  have hnm := (name_of_methodNamed Bd.named Bd.method).1
  have X0 : Stand p l e ({ frames := 0, cells := 0, slots := 0, locals := 0 } : Room) s m #[(.int p1)] below meth c s₁ [] 0 0 := Stand.of_body Bd
  have e0 : s₁.heap = h0 := by rw [← hh, Bd.state]; rfl
  have N0 := Fr.nil n0
  have pre0 : ∀ t, Steps p.tables e below (s₁.setTop (mkF m 0 #[.val (.int p1), .unset, .unset, .unset] [])) t → Steps p.tables e below (s₁.setTop (entryFrame m #[(.int p1)] 4)) t := fun t k => castTop (own_ef_rm13 m p1 p2 p3 A K cs ) k
  have KK0 : Keep h0 h0 [] := Keep.refl _ _
  have pre61 : ∀ t, Steps p.tables e below (s₁.setTop (mkF m 3 #[.val (.int p1), .unset, .unset, .unset] [(.int (48 : Int32)), (.int p1)])) t → Steps p.tables e below (s₁.setTop (entryFrame m #[(.int p1)] 4)) t := fun t k => pre0 t (by
    show Steps p.tables e below (s₁.setTop (mkF m 0 #[.val (.int p1), .unset, .unset, .unset] [])) _
    refine XS.iloadN X0.here hx rfl (hb hby own_d_method_2_code_0) rfl ?_
    show Steps p.tables e below (s₁.setTop (mkF m 1 #[.val (.int p1), .unset, .unset, .unset] [(.int p1)])) _
    refine XS.bipush X0.here hx rfl (hb hby own_d_method_2_code_1) ?_
    exact k)
  by_cases hc3_62 : p1 < (48 : Int32)
  · have pre63 : ∀ t, Steps p.tables e below (s₁.setTop (mkF m 26 #[.val (.int p1), .val (.int (0 : Int32)), .val (.int (p1 ||| (32 : Int32))), .unset] [(.int (97 : Int32)), (.int (p1 ||| (32 : Int32)))])) t → Steps p.tables e below (s₁.setTop (entryFrame m #[(.int p1)] 4)) t := fun t k => pre61 t (by
      show Steps p.tables e below (s₁.setTop (mkF m 3 #[.val (.int p1), .unset, .unset, .unset] [(.int (48 : Int32)), (.int p1)])) _
      refine XS.icmpYes X0.here hx rfl (pc0 := 3) (pc' := 16) rfl (hb hby own_d_method_2_code_3) rfl (tlt hc3_62).1 (by decide) (by decide) ?_
      show Steps p.tables e below (s₁.setTop (mkF m 16 #[.val (.int p1), .unset, .unset, .unset] [])) _
      refine XS.iconst X0.here hx rfl (hb hby own_d_method_2_code_16) ?_
      show Steps p.tables e below (s₁.setTop (mkF m 17 #[.val (.int p1), .unset, .unset, .unset] [(.int (0 : Int32))])) _
      refine XS.istoreN X0.here hx rfl (hb hby own_d_method_2_code_17) rfl (l' := #[.val (.int p1), .val (.int (0 : Int32)), .unset, .unset]) rfl ?_
      show Steps p.tables e below (s₁.setTop (mkF m 18 #[.val (.int p1), .val (.int (0 : Int32)), .unset, .unset] [])) _
      refine XS.iloadN X0.here hx rfl (hb hby own_d_method_2_code_18) rfl ?_
      show Steps p.tables e below (s₁.setTop (mkF m 19 #[.val (.int p1), .val (.int (0 : Int32)), .unset, .unset] [(.int p1)])) _
      refine XS.bipush X0.here hx rfl (hb hby own_d_method_2_code_19) ?_
      show Steps p.tables e below (s₁.setTop (mkF m 21 #[.val (.int p1), .val (.int (0 : Int32)), .unset, .unset] [(.int (32 : Int32)), (.int p1)])) _
      refine XS.ior X0.here hx rfl (hb hby own_d_method_2_code_21) rfl ?_
      show Steps p.tables e below (s₁.setTop (mkF m 22 #[.val (.int p1), .val (.int (0 : Int32)), .unset, .unset] [(.int (p1 ||| (32 : Int32)))])) _
      refine XS.istoreN X0.here hx rfl (hb hby own_d_method_2_code_22) rfl (l' := #[.val (.int p1), .val (.int (0 : Int32)), .val (.int (p1 ||| (32 : Int32))), .unset]) rfl ?_
      show Steps p.tables e below (s₁.setTop (mkF m 23 #[.val (.int p1), .val (.int (0 : Int32)), .val (.int (p1 ||| (32 : Int32))), .unset] [])) _
      refine XS.iloadN X0.here hx rfl (hb hby own_d_method_2_code_23) rfl ?_
      show Steps p.tables e below (s₁.setTop (mkF m 24 #[.val (.int p1), .val (.int (0 : Int32)), .val (.int (p1 ||| (32 : Int32))), .unset] [(.int (p1 ||| (32 : Int32)))])) _
      refine XS.bipush X0.here hx rfl (hb hby own_d_method_2_code_24) ?_
      exact k)
    by_cases hc26_64 : (p1 ||| (32 : Int32)) < (97 : Int32)
    · obtain ⟨fs, hr, hrun, hended, hW, hsame⟩ := X0.leave (v := some (.int (0 : Int32))) (fun h => by rw [Bd.returns] at h; cases h)
      refine ⟨_, _, pre63 _ ?_, hrun, hended, _, _, rfl, ?_, ⟨_, rfl⟩, hW, hsame.mono (by decide) (by decide)⟩
      · show Steps p.tables e below (s₁.setTop (mkF m 26 #[.val (.int p1), .val (.int (0 : Int32)), .val (.int (p1 ||| (32 : Int32))), .unset] [(.int (97 : Int32)), (.int (p1 ||| (32 : Int32)))])) _
        refine XS.icmpYes X0.here hx rfl (pc0 := 26) (pc' := 39) rfl (hb hby own_d_method_2_code_26) rfl (tlt hc26_64).1 (by decide) (by decide) ?_
        show Steps p.tables e below (s₁.setTop (mkF m 39 #[.val (.int p1), .val (.int (0 : Int32)), .val (.int (p1 ||| (32 : Int32))), .unset] [])) _
        refine XS.iconst X0.here hx rfl (hb hby own_d_method_2_code_39) ?_
        show Steps p.tables e below (s₁.setTop (mkF m 40 #[.val (.int p1), .val (.int (0 : Int32)), .val (.int (p1 ||| (32 : Int32))), .unset] [(.int (0 : Int32))])) _
        refine XS.istoreN X0.here hx rfl (hb hby own_d_method_2_code_40) rfl (l' := #[.val (.int p1), .val (.int (0 : Int32)), .val (.int (p1 ||| (32 : Int32))), .val (.int (0 : Int32))]) rfl ?_
        show Steps p.tables e below (s₁.setTop (mkF m 41 #[.val (.int p1), .val (.int (0 : Int32)), .val (.int (p1 ||| (32 : Int32))), .val (.int (0 : Int32))] [])) _
        refine XS.iloadN X0.here hx rfl (hb hby own_d_method_2_code_41) rfl ?_
        show Steps p.tables e below (s₁.setTop (mkF m 42 #[.val (.int p1), .val (.int (0 : Int32)), .val (.int (p1 ||| (32 : Int32))), .val (.int (0 : Int32))] [(.int (0 : Int32))])) _
        refine XS.ifNo X0.here hx rfl (hb hby own_d_method_2_code_42) rfl ((if0 _ _).trans (teq (by decide : (0 : Int32) = (0 : Int32))).2) ?_
        show Steps p.tables e below (s₁.setTop (mkF m 45 #[.val (.int p1), .val (.int (0 : Int32)), .val (.int (p1 ||| (32 : Int32))), .val (.int (0 : Int32))] [])) _
        refine XS.iloadN X0.here hx rfl (hb hby own_d_method_2_code_45) rfl ?_
        show Steps p.tables e below (s₁.setTop (mkF m 46 #[.val (.int p1), .val (.int (0 : Int32)), .val (.int (p1 ||| (32 : Int32))), .val (.int (0 : Int32))] [(.int (0 : Int32))])) _
        refine XS.ifYes X0.here hx rfl (pc0 := 46) (pc' := 53) rfl (hb hby own_d_method_2_code_46) rfl ((if0 _ _).trans (teq (by decide : (0 : Int32) = (0 : Int32))).1) (by decide) (by decide) ?_
        show Steps p.tables e below (s₁.setTop (mkF m 53 #[.val (.int p1), .val (.int (0 : Int32)), .val (.int (p1 ||| (32 : Int32))), .val (.int (0 : Int32))] [])) _
        refine XS.iconst X0.here hx rfl (hb hby own_d_method_2_code_53) ?_
        show Steps p.tables e below (s₁.setTop (mkF m 54 #[.val (.int p1), .val (.int (0 : Int32)), .val (.int (p1 ||| (32 : Int32))), .val (.int (0 : Int32))] [(.int (0 : Int32))])) _
        exact retN X0 hx (t := .boolean) Bd.returns (by simp) (hb hby own_d_method_2_code_54) hr
      · show PQ (some (.int (own_f_rm13 p1))) h0 n0 _ s₁.heap _
        rw [e0]
        exact ⟨congrArg (fun z => some (Value.int z)) (by unfold own_f_rm13; rw [if_pos hc3_62, if_pos hc26_64]), N0, rfl⟩
    · have pre65 : ∀ t, Steps p.tables e below (s₁.setTop (mkF m 32 #[.val (.int p1), .val (.int (0 : Int32)), .val (.int (p1 ||| (32 : Int32))), .unset] [(.int (102 : Int32)), (.int (p1 ||| (32 : Int32)))])) t → Steps p.tables e below (s₁.setTop (entryFrame m #[(.int p1)] 4)) t := fun t k => pre63 t (by
        show Steps p.tables e below (s₁.setTop (mkF m 26 #[.val (.int p1), .val (.int (0 : Int32)), .val (.int (p1 ||| (32 : Int32))), .unset] [(.int (97 : Int32)), (.int (p1 ||| (32 : Int32)))])) _
        refine XS.icmpNo X0.here hx rfl (hb hby own_d_method_2_code_26) rfl (flt hc26_64).1 ?_
        show Steps p.tables e below (s₁.setTop (mkF m 29 #[.val (.int p1), .val (.int (0 : Int32)), .val (.int (p1 ||| (32 : Int32))), .unset] [])) _
        refine XS.iloadN X0.here hx rfl (hb hby own_d_method_2_code_29) rfl ?_
        show Steps p.tables e below (s₁.setTop (mkF m 30 #[.val (.int p1), .val (.int (0 : Int32)), .val (.int (p1 ||| (32 : Int32))), .unset] [(.int (p1 ||| (32 : Int32)))])) _
        refine XS.bipush X0.here hx rfl (hb hby own_d_method_2_code_30) ?_
        exact k)
      by_cases hc32_66 : (102 : Int32) < (p1 ||| (32 : Int32))
      · obtain ⟨fs, hr, hrun, hended, hW, hsame⟩ := X0.leave (v := some (.int (0 : Int32))) (fun h => by rw [Bd.returns] at h; cases h)
        refine ⟨_, _, pre65 _ ?_, hrun, hended, _, _, rfl, ?_, ⟨_, rfl⟩, hW, hsame.mono (by decide) (by decide)⟩
        · show Steps p.tables e below (s₁.setTop (mkF m 32 #[.val (.int p1), .val (.int (0 : Int32)), .val (.int (p1 ||| (32 : Int32))), .unset] [(.int (102 : Int32)), (.int (p1 ||| (32 : Int32)))])) _
          refine XS.icmpYes X0.here hx rfl (pc0 := 32) (pc' := 39) rfl (hb hby own_d_method_2_code_32) rfl (tlt hc32_66).2.2.1 (by decide) (by decide) ?_
          show Steps p.tables e below (s₁.setTop (mkF m 39 #[.val (.int p1), .val (.int (0 : Int32)), .val (.int (p1 ||| (32 : Int32))), .unset] [])) _
          refine XS.iconst X0.here hx rfl (hb hby own_d_method_2_code_39) ?_
          show Steps p.tables e below (s₁.setTop (mkF m 40 #[.val (.int p1), .val (.int (0 : Int32)), .val (.int (p1 ||| (32 : Int32))), .unset] [(.int (0 : Int32))])) _
          refine XS.istoreN X0.here hx rfl (hb hby own_d_method_2_code_40) rfl (l' := #[.val (.int p1), .val (.int (0 : Int32)), .val (.int (p1 ||| (32 : Int32))), .val (.int (0 : Int32))]) rfl ?_
          show Steps p.tables e below (s₁.setTop (mkF m 41 #[.val (.int p1), .val (.int (0 : Int32)), .val (.int (p1 ||| (32 : Int32))), .val (.int (0 : Int32))] [])) _
          refine XS.iloadN X0.here hx rfl (hb hby own_d_method_2_code_41) rfl ?_
          show Steps p.tables e below (s₁.setTop (mkF m 42 #[.val (.int p1), .val (.int (0 : Int32)), .val (.int (p1 ||| (32 : Int32))), .val (.int (0 : Int32))] [(.int (0 : Int32))])) _
          refine XS.ifNo X0.here hx rfl (hb hby own_d_method_2_code_42) rfl ((if0 _ _).trans (teq (by decide : (0 : Int32) = (0 : Int32))).2) ?_
          show Steps p.tables e below (s₁.setTop (mkF m 45 #[.val (.int p1), .val (.int (0 : Int32)), .val (.int (p1 ||| (32 : Int32))), .val (.int (0 : Int32))] [])) _
          refine XS.iloadN X0.here hx rfl (hb hby own_d_method_2_code_45) rfl ?_
          show Steps p.tables e below (s₁.setTop (mkF m 46 #[.val (.int p1), .val (.int (0 : Int32)), .val (.int (p1 ||| (32 : Int32))), .val (.int (0 : Int32))] [(.int (0 : Int32))])) _
          refine XS.ifYes X0.here hx rfl (pc0 := 46) (pc' := 53) rfl (hb hby own_d_method_2_code_46) rfl ((if0 _ _).trans (teq (by decide : (0 : Int32) = (0 : Int32))).1) (by decide) (by decide) ?_
          show Steps p.tables e below (s₁.setTop (mkF m 53 #[.val (.int p1), .val (.int (0 : Int32)), .val (.int (p1 ||| (32 : Int32))), .val (.int (0 : Int32))] [])) _
          refine XS.iconst X0.here hx rfl (hb hby own_d_method_2_code_53) ?_
          show Steps p.tables e below (s₁.setTop (mkF m 54 #[.val (.int p1), .val (.int (0 : Int32)), .val (.int (p1 ||| (32 : Int32))), .val (.int (0 : Int32))] [(.int (0 : Int32))])) _
          exact retN X0 hx (t := .boolean) Bd.returns (by simp) (hb hby own_d_method_2_code_54) hr
        · show PQ (some (.int (own_f_rm13 p1))) h0 n0 _ s₁.heap _
          rw [e0]
          exact ⟨congrArg (fun z => some (Value.int z)) (by unfold own_f_rm13; rw [if_pos hc3_62, if_neg hc26_64, if_pos hc32_66]), N0, rfl⟩
      · obtain ⟨fs, hr, hrun, hended, hW, hsame⟩ := X0.leave (v := some (.int (1 : Int32))) (fun h => by rw [Bd.returns] at h; cases h)
        refine ⟨_, _, pre65 _ ?_, hrun, hended, _, _, rfl, ?_, ⟨_, rfl⟩, hW, hsame.mono (by decide) (by decide)⟩
        · show Steps p.tables e below (s₁.setTop (mkF m 32 #[.val (.int p1), .val (.int (0 : Int32)), .val (.int (p1 ||| (32 : Int32))), .unset] [(.int (102 : Int32)), (.int (p1 ||| (32 : Int32)))])) _
          refine XS.icmpNo X0.here hx rfl (hb hby own_d_method_2_code_32) rfl (flt hc32_66).2.2.1 ?_
          show Steps p.tables e below (s₁.setTop (mkF m 35 #[.val (.int p1), .val (.int (0 : Int32)), .val (.int (p1 ||| (32 : Int32))), .unset] [])) _
          refine XS.iconst X0.here hx rfl (hb hby own_d_method_2_code_35) ?_
          show Steps p.tables e below (s₁.setTop (mkF m 36 #[.val (.int p1), .val (.int (0 : Int32)), .val (.int (p1 ||| (32 : Int32))), .unset] [(.int (1 : Int32))])) _
          refine XS.goto X0.here hx rfl (pc0 := 36) (pc' := 40) rfl (hb hby own_d_method_2_code_36) (by decide) (by decide) ?_
          show Steps p.tables e below (s₁.setTop (mkF m 40 #[.val (.int p1), .val (.int (0 : Int32)), .val (.int (p1 ||| (32 : Int32))), .unset] [(.int (1 : Int32))])) _
          refine XS.istoreN X0.here hx rfl (hb hby own_d_method_2_code_40) rfl (l' := #[.val (.int p1), .val (.int (0 : Int32)), .val (.int (p1 ||| (32 : Int32))), .val (.int (1 : Int32))]) rfl ?_
          show Steps p.tables e below (s₁.setTop (mkF m 41 #[.val (.int p1), .val (.int (0 : Int32)), .val (.int (p1 ||| (32 : Int32))), .val (.int (1 : Int32))] [])) _
          refine XS.iloadN X0.here hx rfl (hb hby own_d_method_2_code_41) rfl ?_
          show Steps p.tables e below (s₁.setTop (mkF m 42 #[.val (.int p1), .val (.int (0 : Int32)), .val (.int (p1 ||| (32 : Int32))), .val (.int (1 : Int32))] [(.int (0 : Int32))])) _
          refine XS.ifNo X0.here hx rfl (hb hby own_d_method_2_code_42) rfl ((if0 _ _).trans (teq (by decide : (0 : Int32) = (0 : Int32))).2) ?_
          show Steps p.tables e below (s₁.setTop (mkF m 45 #[.val (.int p1), .val (.int (0 : Int32)), .val (.int (p1 ||| (32 : Int32))), .val (.int (1 : Int32))] [])) _
          refine XS.iloadN X0.here hx rfl (hb hby own_d_method_2_code_45) rfl ?_
          show Steps p.tables e below (s₁.setTop (mkF m 46 #[.val (.int p1), .val (.int (0 : Int32)), .val (.int (p1 ||| (32 : Int32))), .val (.int (1 : Int32))] [(.int (1 : Int32))])) _
          refine XS.ifNo X0.here hx rfl (hb hby own_d_method_2_code_46) rfl ((if0 _ _).trans (feq (by decide : ¬ ((1 : Int32) = (0 : Int32)))).1) ?_
          show Steps p.tables e below (s₁.setTop (mkF m 49 #[.val (.int p1), .val (.int (0 : Int32)), .val (.int (p1 ||| (32 : Int32))), .val (.int (1 : Int32))] [])) _
          refine XS.iconst X0.here hx rfl (hb hby own_d_method_2_code_49) ?_
          show Steps p.tables e below (s₁.setTop (mkF m 50 #[.val (.int p1), .val (.int (0 : Int32)), .val (.int (p1 ||| (32 : Int32))), .val (.int (1 : Int32))] [(.int (1 : Int32))])) _
          refine XS.goto X0.here hx rfl (pc0 := 50) (pc' := 54) rfl (hb hby own_d_method_2_code_50) (by decide) (by decide) ?_
          show Steps p.tables e below (s₁.setTop (mkF m 54 #[.val (.int p1), .val (.int (0 : Int32)), .val (.int (p1 ||| (32 : Int32))), .val (.int (1 : Int32))] [(.int (1 : Int32))])) _
          exact retN X0 hx (t := .boolean) Bd.returns (by simp) (hb hby own_d_method_2_code_54) hr
        · show PQ (some (.int (own_f_rm13 p1))) h0 n0 _ s₁.heap _
          rw [e0]
          exact ⟨congrArg (fun z => some (Value.int z)) (by unfold own_f_rm13; rw [if_pos hc3_62, if_neg hc26_64, if_neg hc32_66]), N0, rfl⟩
  · have pre67 : ∀ t, Steps p.tables e below (s₁.setTop (mkF m 9 #[.val (.int p1), .unset, .unset, .unset] [(.int (57 : Int32)), (.int p1)])) t → Steps p.tables e below (s₁.setTop (entryFrame m #[(.int p1)] 4)) t := fun t k => pre61 t (by
      show Steps p.tables e below (s₁.setTop (mkF m 3 #[.val (.int p1), .unset, .unset, .unset] [(.int (48 : Int32)), (.int p1)])) _
      refine XS.icmpNo X0.here hx rfl (hb hby own_d_method_2_code_3) rfl (flt hc3_62).1 ?_
      show Steps p.tables e below (s₁.setTop (mkF m 6 #[.val (.int p1), .unset, .unset, .unset] [])) _
      refine XS.iloadN X0.here hx rfl (hb hby own_d_method_2_code_6) rfl ?_
      show Steps p.tables e below (s₁.setTop (mkF m 7 #[.val (.int p1), .unset, .unset, .unset] [(.int p1)])) _
      refine XS.bipush X0.here hx rfl (hb hby own_d_method_2_code_7) ?_
      exact k)
    by_cases hc9_68 : (57 : Int32) < p1
    · have pre69 : ∀ t, Steps p.tables e below (s₁.setTop (mkF m 26 #[.val (.int p1), .val (.int (0 : Int32)), .val (.int (p1 ||| (32 : Int32))), .unset] [(.int (97 : Int32)), (.int (p1 ||| (32 : Int32)))])) t → Steps p.tables e below (s₁.setTop (entryFrame m #[(.int p1)] 4)) t := fun t k => pre67 t (by
        show Steps p.tables e below (s₁.setTop (mkF m 9 #[.val (.int p1), .unset, .unset, .unset] [(.int (57 : Int32)), (.int p1)])) _
        refine XS.icmpYes X0.here hx rfl (pc0 := 9) (pc' := 16) rfl (hb hby own_d_method_2_code_9) rfl (tlt hc9_68).2.2.1 (by decide) (by decide) ?_
        show Steps p.tables e below (s₁.setTop (mkF m 16 #[.val (.int p1), .unset, .unset, .unset] [])) _
        refine XS.iconst X0.here hx rfl (hb hby own_d_method_2_code_16) ?_
        show Steps p.tables e below (s₁.setTop (mkF m 17 #[.val (.int p1), .unset, .unset, .unset] [(.int (0 : Int32))])) _
        refine XS.istoreN X0.here hx rfl (hb hby own_d_method_2_code_17) rfl (l' := #[.val (.int p1), .val (.int (0 : Int32)), .unset, .unset]) rfl ?_
        show Steps p.tables e below (s₁.setTop (mkF m 18 #[.val (.int p1), .val (.int (0 : Int32)), .unset, .unset] [])) _
        refine XS.iloadN X0.here hx rfl (hb hby own_d_method_2_code_18) rfl ?_
        show Steps p.tables e below (s₁.setTop (mkF m 19 #[.val (.int p1), .val (.int (0 : Int32)), .unset, .unset] [(.int p1)])) _
        refine XS.bipush X0.here hx rfl (hb hby own_d_method_2_code_19) ?_
        show Steps p.tables e below (s₁.setTop (mkF m 21 #[.val (.int p1), .val (.int (0 : Int32)), .unset, .unset] [(.int (32 : Int32)), (.int p1)])) _
        refine XS.ior X0.here hx rfl (hb hby own_d_method_2_code_21) rfl ?_
        show Steps p.tables e below (s₁.setTop (mkF m 22 #[.val (.int p1), .val (.int (0 : Int32)), .unset, .unset] [(.int (p1 ||| (32 : Int32)))])) _
        refine XS.istoreN X0.here hx rfl (hb hby own_d_method_2_code_22) rfl (l' := #[.val (.int p1), .val (.int (0 : Int32)), .val (.int (p1 ||| (32 : Int32))), .unset]) rfl ?_
        show Steps p.tables e below (s₁.setTop (mkF m 23 #[.val (.int p1), .val (.int (0 : Int32)), .val (.int (p1 ||| (32 : Int32))), .unset] [])) _
        refine XS.iloadN X0.here hx rfl (hb hby own_d_method_2_code_23) rfl ?_
        show Steps p.tables e below (s₁.setTop (mkF m 24 #[.val (.int p1), .val (.int (0 : Int32)), .val (.int (p1 ||| (32 : Int32))), .unset] [(.int (p1 ||| (32 : Int32)))])) _
        refine XS.bipush X0.here hx rfl (hb hby own_d_method_2_code_24) ?_
        exact k)
      by_cases hc26_70 : (p1 ||| (32 : Int32)) < (97 : Int32)
      · obtain ⟨fs, hr, hrun, hended, hW, hsame⟩ := X0.leave (v := some (.int (0 : Int32))) (fun h => by rw [Bd.returns] at h; cases h)
        refine ⟨_, _, pre69 _ ?_, hrun, hended, _, _, rfl, ?_, ⟨_, rfl⟩, hW, hsame.mono (by decide) (by decide)⟩
        · show Steps p.tables e below (s₁.setTop (mkF m 26 #[.val (.int p1), .val (.int (0 : Int32)), .val (.int (p1 ||| (32 : Int32))), .unset] [(.int (97 : Int32)), (.int (p1 ||| (32 : Int32)))])) _
          refine XS.icmpYes X0.here hx rfl (pc0 := 26) (pc' := 39) rfl (hb hby own_d_method_2_code_26) rfl (tlt hc26_70).1 (by decide) (by decide) ?_
          show Steps p.tables e below (s₁.setTop (mkF m 39 #[.val (.int p1), .val (.int (0 : Int32)), .val (.int (p1 ||| (32 : Int32))), .unset] [])) _
          refine XS.iconst X0.here hx rfl (hb hby own_d_method_2_code_39) ?_
          show Steps p.tables e below (s₁.setTop (mkF m 40 #[.val (.int p1), .val (.int (0 : Int32)), .val (.int (p1 ||| (32 : Int32))), .unset] [(.int (0 : Int32))])) _
          refine XS.istoreN X0.here hx rfl (hb hby own_d_method_2_code_40) rfl (l' := #[.val (.int p1), .val (.int (0 : Int32)), .val (.int (p1 ||| (32 : Int32))), .val (.int (0 : Int32))]) rfl ?_
          show Steps p.tables e below (s₁.setTop (mkF m 41 #[.val (.int p1), .val (.int (0 : Int32)), .val (.int (p1 ||| (32 : Int32))), .val (.int (0 : Int32))] [])) _
          refine XS.iloadN X0.here hx rfl (hb hby own_d_method_2_code_41) rfl ?_
          show Steps p.tables e below (s₁.setTop (mkF m 42 #[.val (.int p1), .val (.int (0 : Int32)), .val (.int (p1 ||| (32 : Int32))), .val (.int (0 : Int32))] [(.int (0 : Int32))])) _
          refine XS.ifNo X0.here hx rfl (hb hby own_d_method_2_code_42) rfl ((if0 _ _).trans (teq (by decide : (0 : Int32) = (0 : Int32))).2) ?_
          show Steps p.tables e below (s₁.setTop (mkF m 45 #[.val (.int p1), .val (.int (0 : Int32)), .val (.int (p1 ||| (32 : Int32))), .val (.int (0 : Int32))] [])) _
          refine XS.iloadN X0.here hx rfl (hb hby own_d_method_2_code_45) rfl ?_
          show Steps p.tables e below (s₁.setTop (mkF m 46 #[.val (.int p1), .val (.int (0 : Int32)), .val (.int (p1 ||| (32 : Int32))), .val (.int (0 : Int32))] [(.int (0 : Int32))])) _
          refine XS.ifYes X0.here hx rfl (pc0 := 46) (pc' := 53) rfl (hb hby own_d_method_2_code_46) rfl ((if0 _ _).trans (teq (by decide : (0 : Int32) = (0 : Int32))).1) (by decide) (by decide) ?_
          show Steps p.tables e below (s₁.setTop (mkF m 53 #[.val (.int p1), .val (.int (0 : Int32)), .val (.int (p1 ||| (32 : Int32))), .val (.int (0 : Int32))] [])) _
          refine XS.iconst X0.here hx rfl (hb hby own_d_method_2_code_53) ?_
          show Steps p.tables e below (s₁.setTop (mkF m 54 #[.val (.int p1), .val (.int (0 : Int32)), .val (.int (p1 ||| (32 : Int32))), .val (.int (0 : Int32))] [(.int (0 : Int32))])) _
          exact retN X0 hx (t := .boolean) Bd.returns (by simp) (hb hby own_d_method_2_code_54) hr
        · show PQ (some (.int (own_f_rm13 p1))) h0 n0 _ s₁.heap _
          rw [e0]
          exact ⟨congrArg (fun z => some (Value.int z)) (by unfold own_f_rm13; rw [if_neg hc3_62, if_pos hc9_68, if_pos hc26_70]), N0, rfl⟩
      · have pre71 : ∀ t, Steps p.tables e below (s₁.setTop (mkF m 32 #[.val (.int p1), .val (.int (0 : Int32)), .val (.int (p1 ||| (32 : Int32))), .unset] [(.int (102 : Int32)), (.int (p1 ||| (32 : Int32)))])) t → Steps p.tables e below (s₁.setTop (entryFrame m #[(.int p1)] 4)) t := fun t k => pre69 t (by
          show Steps p.tables e below (s₁.setTop (mkF m 26 #[.val (.int p1), .val (.int (0 : Int32)), .val (.int (p1 ||| (32 : Int32))), .unset] [(.int (97 : Int32)), (.int (p1 ||| (32 : Int32)))])) _
          refine XS.icmpNo X0.here hx rfl (hb hby own_d_method_2_code_26) rfl (flt hc26_70).1 ?_
          show Steps p.tables e below (s₁.setTop (mkF m 29 #[.val (.int p1), .val (.int (0 : Int32)), .val (.int (p1 ||| (32 : Int32))), .unset] [])) _
          refine XS.iloadN X0.here hx rfl (hb hby own_d_method_2_code_29) rfl ?_
          show Steps p.tables e below (s₁.setTop (mkF m 30 #[.val (.int p1), .val (.int (0 : Int32)), .val (.int (p1 ||| (32 : Int32))), .unset] [(.int (p1 ||| (32 : Int32)))])) _
          refine XS.bipush X0.here hx rfl (hb hby own_d_method_2_code_30) ?_
          exact k)
        by_cases hc32_72 : (102 : Int32) < (p1 ||| (32 : Int32))
        · obtain ⟨fs, hr, hrun, hended, hW, hsame⟩ := X0.leave (v := some (.int (0 : Int32))) (fun h => by rw [Bd.returns] at h; cases h)
          refine ⟨_, _, pre71 _ ?_, hrun, hended, _, _, rfl, ?_, ⟨_, rfl⟩, hW, hsame.mono (by decide) (by decide)⟩
          · show Steps p.tables e below (s₁.setTop (mkF m 32 #[.val (.int p1), .val (.int (0 : Int32)), .val (.int (p1 ||| (32 : Int32))), .unset] [(.int (102 : Int32)), (.int (p1 ||| (32 : Int32)))])) _
            refine XS.icmpYes X0.here hx rfl (pc0 := 32) (pc' := 39) rfl (hb hby own_d_method_2_code_32) rfl (tlt hc32_72).2.2.1 (by decide) (by decide) ?_
            show Steps p.tables e below (s₁.setTop (mkF m 39 #[.val (.int p1), .val (.int (0 : Int32)), .val (.int (p1 ||| (32 : Int32))), .unset] [])) _
            refine XS.iconst X0.here hx rfl (hb hby own_d_method_2_code_39) ?_
            show Steps p.tables e below (s₁.setTop (mkF m 40 #[.val (.int p1), .val (.int (0 : Int32)), .val (.int (p1 ||| (32 : Int32))), .unset] [(.int (0 : Int32))])) _
            refine XS.istoreN X0.here hx rfl (hb hby own_d_method_2_code_40) rfl (l' := #[.val (.int p1), .val (.int (0 : Int32)), .val (.int (p1 ||| (32 : Int32))), .val (.int (0 : Int32))]) rfl ?_
            show Steps p.tables e below (s₁.setTop (mkF m 41 #[.val (.int p1), .val (.int (0 : Int32)), .val (.int (p1 ||| (32 : Int32))), .val (.int (0 : Int32))] [])) _
            refine XS.iloadN X0.here hx rfl (hb hby own_d_method_2_code_41) rfl ?_
            show Steps p.tables e below (s₁.setTop (mkF m 42 #[.val (.int p1), .val (.int (0 : Int32)), .val (.int (p1 ||| (32 : Int32))), .val (.int (0 : Int32))] [(.int (0 : Int32))])) _
            refine XS.ifNo X0.here hx rfl (hb hby own_d_method_2_code_42) rfl ((if0 _ _).trans (teq (by decide : (0 : Int32) = (0 : Int32))).2) ?_
            show Steps p.tables e below (s₁.setTop (mkF m 45 #[.val (.int p1), .val (.int (0 : Int32)), .val (.int (p1 ||| (32 : Int32))), .val (.int (0 : Int32))] [])) _
            refine XS.iloadN X0.here hx rfl (hb hby own_d_method_2_code_45) rfl ?_
            show Steps p.tables e below (s₁.setTop (mkF m 46 #[.val (.int p1), .val (.int (0 : Int32)), .val (.int (p1 ||| (32 : Int32))), .val (.int (0 : Int32))] [(.int (0 : Int32))])) _
            refine XS.ifYes X0.here hx rfl (pc0 := 46) (pc' := 53) rfl (hb hby own_d_method_2_code_46) rfl ((if0 _ _).trans (teq (by decide : (0 : Int32) = (0 : Int32))).1) (by decide) (by decide) ?_
            show Steps p.tables e below (s₁.setTop (mkF m 53 #[.val (.int p1), .val (.int (0 : Int32)), .val (.int (p1 ||| (32 : Int32))), .val (.int (0 : Int32))] [])) _
            refine XS.iconst X0.here hx rfl (hb hby own_d_method_2_code_53) ?_
            show Steps p.tables e below (s₁.setTop (mkF m 54 #[.val (.int p1), .val (.int (0 : Int32)), .val (.int (p1 ||| (32 : Int32))), .val (.int (0 : Int32))] [(.int (0 : Int32))])) _
            exact retN X0 hx (t := .boolean) Bd.returns (by simp) (hb hby own_d_method_2_code_54) hr
          · show PQ (some (.int (own_f_rm13 p1))) h0 n0 _ s₁.heap _
            rw [e0]
            exact ⟨congrArg (fun z => some (Value.int z)) (by unfold own_f_rm13; rw [if_neg hc3_62, if_pos hc9_68, if_neg hc26_70, if_pos hc32_72]), N0, rfl⟩
        · obtain ⟨fs, hr, hrun, hended, hW, hsame⟩ := X0.leave (v := some (.int (1 : Int32))) (fun h => by rw [Bd.returns] at h; cases h)
          refine ⟨_, _, pre71 _ ?_, hrun, hended, _, _, rfl, ?_, ⟨_, rfl⟩, hW, hsame.mono (by decide) (by decide)⟩
          · show Steps p.tables e below (s₁.setTop (mkF m 32 #[.val (.int p1), .val (.int (0 : Int32)), .val (.int (p1 ||| (32 : Int32))), .unset] [(.int (102 : Int32)), (.int (p1 ||| (32 : Int32)))])) _
            refine XS.icmpNo X0.here hx rfl (hb hby own_d_method_2_code_32) rfl (flt hc32_72).2.2.1 ?_
            show Steps p.tables e below (s₁.setTop (mkF m 35 #[.val (.int p1), .val (.int (0 : Int32)), .val (.int (p1 ||| (32 : Int32))), .unset] [])) _
            refine XS.iconst X0.here hx rfl (hb hby own_d_method_2_code_35) ?_
            show Steps p.tables e below (s₁.setTop (mkF m 36 #[.val (.int p1), .val (.int (0 : Int32)), .val (.int (p1 ||| (32 : Int32))), .unset] [(.int (1 : Int32))])) _
            refine XS.goto X0.here hx rfl (pc0 := 36) (pc' := 40) rfl (hb hby own_d_method_2_code_36) (by decide) (by decide) ?_
            show Steps p.tables e below (s₁.setTop (mkF m 40 #[.val (.int p1), .val (.int (0 : Int32)), .val (.int (p1 ||| (32 : Int32))), .unset] [(.int (1 : Int32))])) _
            refine XS.istoreN X0.here hx rfl (hb hby own_d_method_2_code_40) rfl (l' := #[.val (.int p1), .val (.int (0 : Int32)), .val (.int (p1 ||| (32 : Int32))), .val (.int (1 : Int32))]) rfl ?_
            show Steps p.tables e below (s₁.setTop (mkF m 41 #[.val (.int p1), .val (.int (0 : Int32)), .val (.int (p1 ||| (32 : Int32))), .val (.int (1 : Int32))] [])) _
            refine XS.iloadN X0.here hx rfl (hb hby own_d_method_2_code_41) rfl ?_
            show Steps p.tables e below (s₁.setTop (mkF m 42 #[.val (.int p1), .val (.int (0 : Int32)), .val (.int (p1 ||| (32 : Int32))), .val (.int (1 : Int32))] [(.int (0 : Int32))])) _
            refine XS.ifNo X0.here hx rfl (hb hby own_d_method_2_code_42) rfl ((if0 _ _).trans (teq (by decide : (0 : Int32) = (0 : Int32))).2) ?_
            show Steps p.tables e below (s₁.setTop (mkF m 45 #[.val (.int p1), .val (.int (0 : Int32)), .val (.int (p1 ||| (32 : Int32))), .val (.int (1 : Int32))] [])) _
            refine XS.iloadN X0.here hx rfl (hb hby own_d_method_2_code_45) rfl ?_
            show Steps p.tables e below (s₁.setTop (mkF m 46 #[.val (.int p1), .val (.int (0 : Int32)), .val (.int (p1 ||| (32 : Int32))), .val (.int (1 : Int32))] [(.int (1 : Int32))])) _
            refine XS.ifNo X0.here hx rfl (hb hby own_d_method_2_code_46) rfl ((if0 _ _).trans (feq (by decide : ¬ ((1 : Int32) = (0 : Int32)))).1) ?_
            show Steps p.tables e below (s₁.setTop (mkF m 49 #[.val (.int p1), .val (.int (0 : Int32)), .val (.int (p1 ||| (32 : Int32))), .val (.int (1 : Int32))] [])) _
            refine XS.iconst X0.here hx rfl (hb hby own_d_method_2_code_49) ?_
            show Steps p.tables e below (s₁.setTop (mkF m 50 #[.val (.int p1), .val (.int (0 : Int32)), .val (.int (p1 ||| (32 : Int32))), .val (.int (1 : Int32))] [(.int (1 : Int32))])) _
            refine XS.goto X0.here hx rfl (pc0 := 50) (pc' := 54) rfl (hb hby own_d_method_2_code_50) (by decide) (by decide) ?_
            show Steps p.tables e below (s₁.setTop (mkF m 54 #[.val (.int p1), .val (.int (0 : Int32)), .val (.int (p1 ||| (32 : Int32))), .val (.int (1 : Int32))] [(.int (1 : Int32))])) _
            exact retN X0 hx (t := .boolean) Bd.returns (by simp) (hb hby own_d_method_2_code_54) hr
          · show PQ (some (.int (own_f_rm13 p1))) h0 n0 _ s₁.heap _
            rw [e0]
            exact ⟨congrArg (fun z => some (Value.int z)) (by unfold own_f_rm13; rw [if_neg hc3_62, if_pos hc9_68, if_neg hc26_70, if_neg hc32_72]), N0, rfl⟩
    · have pre73 : ∀ t, Steps p.tables e below (s₁.setTop (mkF m 26 #[.val (.int p1), .val (.int (1 : Int32)), .val (.int (p1 ||| (32 : Int32))), .unset] [(.int (97 : Int32)), (.int (p1 ||| (32 : Int32)))])) t → Steps p.tables e below (s₁.setTop (entryFrame m #[(.int p1)] 4)) t := fun t k => pre67 t (by
        show Steps p.tables e below (s₁.setTop (mkF m 9 #[.val (.int p1), .unset, .unset, .unset] [(.int (57 : Int32)), (.int p1)])) _
        refine XS.icmpNo X0.here hx rfl (hb hby own_d_method_2_code_9) rfl (flt hc9_68).2.2.1 ?_
        show Steps p.tables e below (s₁.setTop (mkF m 12 #[.val (.int p1), .unset, .unset, .unset] [])) _
        refine XS.iconst X0.here hx rfl (hb hby own_d_method_2_code_12) ?_
        show Steps p.tables e below (s₁.setTop (mkF m 13 #[.val (.int p1), .unset, .unset, .unset] [(.int (1 : Int32))])) _
        refine XS.goto X0.here hx rfl (pc0 := 13) (pc' := 17) rfl (hb hby own_d_method_2_code_13) (by decide) (by decide) ?_
        show Steps p.tables e below (s₁.setTop (mkF m 17 #[.val (.int p1), .unset, .unset, .unset] [(.int (1 : Int32))])) _
        refine XS.istoreN X0.here hx rfl (hb hby own_d_method_2_code_17) rfl (l' := #[.val (.int p1), .val (.int (1 : Int32)), .unset, .unset]) rfl ?_
        show Steps p.tables e below (s₁.setTop (mkF m 18 #[.val (.int p1), .val (.int (1 : Int32)), .unset, .unset] [])) _
        refine XS.iloadN X0.here hx rfl (hb hby own_d_method_2_code_18) rfl ?_
        show Steps p.tables e below (s₁.setTop (mkF m 19 #[.val (.int p1), .val (.int (1 : Int32)), .unset, .unset] [(.int p1)])) _
        refine XS.bipush X0.here hx rfl (hb hby own_d_method_2_code_19) ?_
        show Steps p.tables e below (s₁.setTop (mkF m 21 #[.val (.int p1), .val (.int (1 : Int32)), .unset, .unset] [(.int (32 : Int32)), (.int p1)])) _
        refine XS.ior X0.here hx rfl (hb hby own_d_method_2_code_21) rfl ?_
        show Steps p.tables e below (s₁.setTop (mkF m 22 #[.val (.int p1), .val (.int (1 : Int32)), .unset, .unset] [(.int (p1 ||| (32 : Int32)))])) _
        refine XS.istoreN X0.here hx rfl (hb hby own_d_method_2_code_22) rfl (l' := #[.val (.int p1), .val (.int (1 : Int32)), .val (.int (p1 ||| (32 : Int32))), .unset]) rfl ?_
        show Steps p.tables e below (s₁.setTop (mkF m 23 #[.val (.int p1), .val (.int (1 : Int32)), .val (.int (p1 ||| (32 : Int32))), .unset] [])) _
        refine XS.iloadN X0.here hx rfl (hb hby own_d_method_2_code_23) rfl ?_
        show Steps p.tables e below (s₁.setTop (mkF m 24 #[.val (.int p1), .val (.int (1 : Int32)), .val (.int (p1 ||| (32 : Int32))), .unset] [(.int (p1 ||| (32 : Int32)))])) _
        refine XS.bipush X0.here hx rfl (hb hby own_d_method_2_code_24) ?_
        exact k)
      by_cases hc26_74 : (p1 ||| (32 : Int32)) < (97 : Int32)
      · obtain ⟨fs, hr, hrun, hended, hW, hsame⟩ := X0.leave (v := some (.int (1 : Int32))) (fun h => by rw [Bd.returns] at h; cases h)
        refine ⟨_, _, pre73 _ ?_, hrun, hended, _, _, rfl, ?_, ⟨_, rfl⟩, hW, hsame.mono (by decide) (by decide)⟩
        · show Steps p.tables e below (s₁.setTop (mkF m 26 #[.val (.int p1), .val (.int (1 : Int32)), .val (.int (p1 ||| (32 : Int32))), .unset] [(.int (97 : Int32)), (.int (p1 ||| (32 : Int32)))])) _
          refine XS.icmpYes X0.here hx rfl (pc0 := 26) (pc' := 39) rfl (hb hby own_d_method_2_code_26) rfl (tlt hc26_74).1 (by decide) (by decide) ?_
          show Steps p.tables e below (s₁.setTop (mkF m 39 #[.val (.int p1), .val (.int (1 : Int32)), .val (.int (p1 ||| (32 : Int32))), .unset] [])) _
          refine XS.iconst X0.here hx rfl (hb hby own_d_method_2_code_39) ?_
          show Steps p.tables e below (s₁.setTop (mkF m 40 #[.val (.int p1), .val (.int (1 : Int32)), .val (.int (p1 ||| (32 : Int32))), .unset] [(.int (0 : Int32))])) _
          refine XS.istoreN X0.here hx rfl (hb hby own_d_method_2_code_40) rfl (l' := #[.val (.int p1), .val (.int (1 : Int32)), .val (.int (p1 ||| (32 : Int32))), .val (.int (0 : Int32))]) rfl ?_
          show Steps p.tables e below (s₁.setTop (mkF m 41 #[.val (.int p1), .val (.int (1 : Int32)), .val (.int (p1 ||| (32 : Int32))), .val (.int (0 : Int32))] [])) _
          refine XS.iloadN X0.here hx rfl (hb hby own_d_method_2_code_41) rfl ?_
          show Steps p.tables e below (s₁.setTop (mkF m 42 #[.val (.int p1), .val (.int (1 : Int32)), .val (.int (p1 ||| (32 : Int32))), .val (.int (0 : Int32))] [(.int (1 : Int32))])) _
          refine XS.ifYes X0.here hx rfl (pc0 := 42) (pc' := 49) rfl (hb hby own_d_method_2_code_42) rfl ((if0 _ _).trans (feq (by decide : ¬ ((1 : Int32) = (0 : Int32)))).2) (by decide) (by decide) ?_
          show Steps p.tables e below (s₁.setTop (mkF m 49 #[.val (.int p1), .val (.int (1 : Int32)), .val (.int (p1 ||| (32 : Int32))), .val (.int (0 : Int32))] [])) _
          refine XS.iconst X0.here hx rfl (hb hby own_d_method_2_code_49) ?_
          show Steps p.tables e below (s₁.setTop (mkF m 50 #[.val (.int p1), .val (.int (1 : Int32)), .val (.int (p1 ||| (32 : Int32))), .val (.int (0 : Int32))] [(.int (1 : Int32))])) _
          refine XS.goto X0.here hx rfl (pc0 := 50) (pc' := 54) rfl (hb hby own_d_method_2_code_50) (by decide) (by decide) ?_
          show Steps p.tables e below (s₁.setTop (mkF m 54 #[.val (.int p1), .val (.int (1 : Int32)), .val (.int (p1 ||| (32 : Int32))), .val (.int (0 : Int32))] [(.int (1 : Int32))])) _
          exact retN X0 hx (t := .boolean) Bd.returns (by simp) (hb hby own_d_method_2_code_54) hr
        · show PQ (some (.int (own_f_rm13 p1))) h0 n0 _ s₁.heap _
          rw [e0]
          exact ⟨congrArg (fun z => some (Value.int z)) (by unfold own_f_rm13; rw [if_neg hc3_62, if_neg hc9_68, if_pos hc26_74]), N0, rfl⟩
      · have pre75 : ∀ t, Steps p.tables e below (s₁.setTop (mkF m 32 #[.val (.int p1), .val (.int (1 : Int32)), .val (.int (p1 ||| (32 : Int32))), .unset] [(.int (102 : Int32)), (.int (p1 ||| (32 : Int32)))])) t → Steps p.tables e below (s₁.setTop (entryFrame m #[(.int p1)] 4)) t := fun t k => pre73 t (by
          show Steps p.tables e below (s₁.setTop (mkF m 26 #[.val (.int p1), .val (.int (1 : Int32)), .val (.int (p1 ||| (32 : Int32))), .unset] [(.int (97 : Int32)), (.int (p1 ||| (32 : Int32)))])) _
          refine XS.icmpNo X0.here hx rfl (hb hby own_d_method_2_code_26) rfl (flt hc26_74).1 ?_
          show Steps p.tables e below (s₁.setTop (mkF m 29 #[.val (.int p1), .val (.int (1 : Int32)), .val (.int (p1 ||| (32 : Int32))), .unset] [])) _
          refine XS.iloadN X0.here hx rfl (hb hby own_d_method_2_code_29) rfl ?_
          show Steps p.tables e below (s₁.setTop (mkF m 30 #[.val (.int p1), .val (.int (1 : Int32)), .val (.int (p1 ||| (32 : Int32))), .unset] [(.int (p1 ||| (32 : Int32)))])) _
          refine XS.bipush X0.here hx rfl (hb hby own_d_method_2_code_30) ?_
          exact k)
        by_cases hc32_76 : (102 : Int32) < (p1 ||| (32 : Int32))
        · obtain ⟨fs, hr, hrun, hended, hW, hsame⟩ := X0.leave (v := some (.int (1 : Int32))) (fun h => by rw [Bd.returns] at h; cases h)
          refine ⟨_, _, pre75 _ ?_, hrun, hended, _, _, rfl, ?_, ⟨_, rfl⟩, hW, hsame.mono (by decide) (by decide)⟩
          · show Steps p.tables e below (s₁.setTop (mkF m 32 #[.val (.int p1), .val (.int (1 : Int32)), .val (.int (p1 ||| (32 : Int32))), .unset] [(.int (102 : Int32)), (.int (p1 ||| (32 : Int32)))])) _
            refine XS.icmpYes X0.here hx rfl (pc0 := 32) (pc' := 39) rfl (hb hby own_d_method_2_code_32) rfl (tlt hc32_76).2.2.1 (by decide) (by decide) ?_
            show Steps p.tables e below (s₁.setTop (mkF m 39 #[.val (.int p1), .val (.int (1 : Int32)), .val (.int (p1 ||| (32 : Int32))), .unset] [])) _
            refine XS.iconst X0.here hx rfl (hb hby own_d_method_2_code_39) ?_
            show Steps p.tables e below (s₁.setTop (mkF m 40 #[.val (.int p1), .val (.int (1 : Int32)), .val (.int (p1 ||| (32 : Int32))), .unset] [(.int (0 : Int32))])) _
            refine XS.istoreN X0.here hx rfl (hb hby own_d_method_2_code_40) rfl (l' := #[.val (.int p1), .val (.int (1 : Int32)), .val (.int (p1 ||| (32 : Int32))), .val (.int (0 : Int32))]) rfl ?_
            show Steps p.tables e below (s₁.setTop (mkF m 41 #[.val (.int p1), .val (.int (1 : Int32)), .val (.int (p1 ||| (32 : Int32))), .val (.int (0 : Int32))] [])) _
            refine XS.iloadN X0.here hx rfl (hb hby own_d_method_2_code_41) rfl ?_
            show Steps p.tables e below (s₁.setTop (mkF m 42 #[.val (.int p1), .val (.int (1 : Int32)), .val (.int (p1 ||| (32 : Int32))), .val (.int (0 : Int32))] [(.int (1 : Int32))])) _
            refine XS.ifYes X0.here hx rfl (pc0 := 42) (pc' := 49) rfl (hb hby own_d_method_2_code_42) rfl ((if0 _ _).trans (feq (by decide : ¬ ((1 : Int32) = (0 : Int32)))).2) (by decide) (by decide) ?_
            show Steps p.tables e below (s₁.setTop (mkF m 49 #[.val (.int p1), .val (.int (1 : Int32)), .val (.int (p1 ||| (32 : Int32))), .val (.int (0 : Int32))] [])) _
            refine XS.iconst X0.here hx rfl (hb hby own_d_method_2_code_49) ?_
            show Steps p.tables e below (s₁.setTop (mkF m 50 #[.val (.int p1), .val (.int (1 : Int32)), .val (.int (p1 ||| (32 : Int32))), .val (.int (0 : Int32))] [(.int (1 : Int32))])) _
            refine XS.goto X0.here hx rfl (pc0 := 50) (pc' := 54) rfl (hb hby own_d_method_2_code_50) (by decide) (by decide) ?_
            show Steps p.tables e below (s₁.setTop (mkF m 54 #[.val (.int p1), .val (.int (1 : Int32)), .val (.int (p1 ||| (32 : Int32))), .val (.int (0 : Int32))] [(.int (1 : Int32))])) _
            exact retN X0 hx (t := .boolean) Bd.returns (by simp) (hb hby own_d_method_2_code_54) hr
          · show PQ (some (.int (own_f_rm13 p1))) h0 n0 _ s₁.heap _
            rw [e0]
            exact ⟨congrArg (fun z => some (Value.int z)) (by unfold own_f_rm13; rw [if_neg hc3_62, if_neg hc9_68, if_neg hc26_74, if_pos hc32_76]), N0, rfl⟩
        · obtain ⟨fs, hr, hrun, hended, hW, hsame⟩ := X0.leave (v := some (.int (1 : Int32))) (fun h => by rw [Bd.returns] at h; cases h)
          refine ⟨_, _, pre75 _ ?_, hrun, hended, _, _, rfl, ?_, ⟨_, rfl⟩, hW, hsame.mono (by decide) (by decide)⟩
          · show Steps p.tables e below (s₁.setTop (mkF m 32 #[.val (.int p1), .val (.int (1 : Int32)), .val (.int (p1 ||| (32 : Int32))), .unset] [(.int (102 : Int32)), (.int (p1 ||| (32 : Int32)))])) _
            refine XS.icmpNo X0.here hx rfl (hb hby own_d_method_2_code_32) rfl (flt hc32_76).2.2.1 ?_
            show Steps p.tables e below (s₁.setTop (mkF m 35 #[.val (.int p1), .val (.int (1 : Int32)), .val (.int (p1 ||| (32 : Int32))), .unset] [])) _
            refine XS.iconst X0.here hx rfl (hb hby own_d_method_2_code_35) ?_
            show Steps p.tables e below (s₁.setTop (mkF m 36 #[.val (.int p1), .val (.int (1 : Int32)), .val (.int (p1 ||| (32 : Int32))), .unset] [(.int (1 : Int32))])) _
            refine XS.goto X0.here hx rfl (pc0 := 36) (pc' := 40) rfl (hb hby own_d_method_2_code_36) (by decide) (by decide) ?_
            show Steps p.tables e below (s₁.setTop (mkF m 40 #[.val (.int p1), .val (.int (1 : Int32)), .val (.int (p1 ||| (32 : Int32))), .unset] [(.int (1 : Int32))])) _
            refine XS.istoreN X0.here hx rfl (hb hby own_d_method_2_code_40) rfl (l' := #[.val (.int p1), .val (.int (1 : Int32)), .val (.int (p1 ||| (32 : Int32))), .val (.int (1 : Int32))]) rfl ?_
            show Steps p.tables e below (s₁.setTop (mkF m 41 #[.val (.int p1), .val (.int (1 : Int32)), .val (.int (p1 ||| (32 : Int32))), .val (.int (1 : Int32))] [])) _
            refine XS.iloadN X0.here hx rfl (hb hby own_d_method_2_code_41) rfl ?_
            show Steps p.tables e below (s₁.setTop (mkF m 42 #[.val (.int p1), .val (.int (1 : Int32)), .val (.int (p1 ||| (32 : Int32))), .val (.int (1 : Int32))] [(.int (1 : Int32))])) _
            refine XS.ifYes X0.here hx rfl (pc0 := 42) (pc' := 49) rfl (hb hby own_d_method_2_code_42) rfl ((if0 _ _).trans (feq (by decide : ¬ ((1 : Int32) = (0 : Int32)))).2) (by decide) (by decide) ?_
            show Steps p.tables e below (s₁.setTop (mkF m 49 #[.val (.int p1), .val (.int (1 : Int32)), .val (.int (p1 ||| (32 : Int32))), .val (.int (1 : Int32))] [])) _
            refine XS.iconst X0.here hx rfl (hb hby own_d_method_2_code_49) ?_
            show Steps p.tables e below (s₁.setTop (mkF m 50 #[.val (.int p1), .val (.int (1 : Int32)), .val (.int (p1 ||| (32 : Int32))), .val (.int (1 : Int32))] [(.int (1 : Int32))])) _
            refine XS.goto X0.here hx rfl (pc0 := 50) (pc' := 54) rfl (hb hby own_d_method_2_code_50) (by decide) (by decide) ?_
            show Steps p.tables e below (s₁.setTop (mkF m 54 #[.val (.int p1), .val (.int (1 : Int32)), .val (.int (p1 ||| (32 : Int32))), .val (.int (1 : Int32))] [(.int (1 : Int32))])) _
            exact retN X0 hx (t := .boolean) Bd.returns (by simp) (hb hby own_d_method_2_code_54) hr
          · show PQ (some (.int (own_f_rm13 p1))) h0 n0 _ s₁.heap _
            rw [e0]
            exact ⟨congrArg (fun z => some (Value.int z)) (by unfold own_f_rm13; rw [if_neg hc3_62, if_neg hc9_68, if_neg hc26_74, if_neg hc32_76]), N0, rfl⟩
theorem own_ef_rm14 (m : MethodId) (p1 : Int32) (p2 : Int32) (p3 : Int32) (A : Nat → Addr) (K : Nat → ClassId) (cs : Int32)  : entryFrame m #[(.int (own_tab0 ((p2 &&& (2147483647 : Int32)) % (22 : Int32))))] 1 = mkF m 0 #[.val (.int (own_tab0 ((p2 &&& (2147483647 : Int32)) % (22 : Int32))))] [] := by first | (simp [entryFrame, mkF, argsToLocals, Value.category, maxLocals]; done) | rfl
def own_f_rm14 (p2 : Int32) : Int32 := if (own_tab0 ((p2 &&& (2147483647 : Int32)) % (22 : Int32))) < (48 : Int32) then (if (own_tab0 ((p2 &&& (2147483647 : Int32)) % (22 : Int32))) < (97 : Int32) then (if (own_tab0 ((p2 &&& (2147483647 : Int32)) % (22 : Int32))) < (65 : Int32) then (0 : Int32)
      else if (70 : Int32) < (own_tab0 ((p2 &&& (2147483647 : Int32)) % (22 : Int32))) then (0 : Int32)
        else (1 : Int32))
    else if (102 : Int32) < (own_tab0 ((p2 &&& (2147483647 : Int32)) % (22 : Int32))) then (if (own_tab0 ((p2 &&& (2147483647 : Int32)) % (22 : Int32))) < (65 : Int32) then (0 : Int32)
        else if (70 : Int32) < (own_tab0 ((p2 &&& (2147483647 : Int32)) % (22 : Int32))) then (0 : Int32)
          else (1 : Int32))
      else (1 : Int32))
  else if (57 : Int32) < (own_tab0 ((p2 &&& (2147483647 : Int32)) % (22 : Int32))) then (if (own_tab0 ((p2 &&& (2147483647 : Int32)) % (22 : Int32))) < (97 : Int32) then (if (own_tab0 ((p2 &&& (2147483647 : Int32)) % (22 : Int32))) < (65 : Int32) then (0 : Int32)
        else if (70 : Int32) < (own_tab0 ((p2 &&& (2147483647 : Int32)) % (22 : Int32))) then (0 : Int32)
          else (1 : Int32))
      else if (102 : Int32) < (own_tab0 ((p2 &&& (2147483647 : Int32)) % (22 : Int32))) then (if (own_tab0 ((p2 &&& (2147483647 : Int32)) % (22 : Int32))) < (65 : Int32) then (0 : Int32)
          else if (70 : Int32) < (own_tab0 ((p2 &&& (2147483647 : Int32)) % (22 : Int32))) then (0 : Int32)
            else (1 : Int32))
        else (1 : Int32))
    else (1 : Int32)
set_option maxRecDepth 65536 in
set_option maxHeartbeats 40000000 in
theorem rm14 (l : Launch) (Z : State) (a0 : Array Value) (hw : ∀ d ∈ tables_1, d.before a0 Z = true) (ws : List Jvm.Cond) (h0 : Heap) (n0 : Nat) (p1 : Int32) (p2 : Int32) (p3 : Int32) (A : Nat → Addr) (K : Nat → ClassId) (cs : Int32)  (EN : own_St Z A K cs) (OL0 : Old Z n0 h0) :
    MetFree l own_m1 (head1 (Jvm.Cond.code own_m1 prog_13_method_10_code 1 (some .boolean) :: ws) ({ frames := 0, cells := 0, slots := 0, locals := 0 } : Room)) (fun a U => a = #[(.int (own_tab0 ((p2 &&& (2147483647 : Int32)) % (22 : Int32))))] ∧ Z.Warmed39 U.vm ∧ U.heap = h0) (fun _ _ _ _ _ => True) (fun _ U o U' => ∃ v L, o = .returned v ∧ (PQ (some (.int (own_f_rm14 p2))) h0 n0) v U'.heap L ∧ FrameEnd U o U' L ({ frames := 0, cells := 0, slots := 0, locals := 0 } : Room).cells ({ frames := 0, cells := 0, slots := 0, locals := 0 } : Room).slots) := by
  refine MetFree.of_bodySF (plainFor_of_name own_pn3) hisR ?_
  intro p e s m args below meth c s₁ Bd hml0 hP hK
  obtain ⟨rfl, hZ, hh⟩ := hP
  have hx := Bd.exec
  have hby := Bd.bytes
  have hml : c.maxLocals = 1 := hml0
  have hown : s.vm.findClass "com/example/makusanyo/makusanyo/PercentEscapes" = some m.cls := findClass_of_methodNamed Bd.named
  have hnm := (name_of_methodNamed Bd.named Bd.method).1
  have X0 : Stand p l e ({ frames := 0, cells := 0, slots := 0, locals := 0 } : Room) s m #[(.int (own_tab0 ((p2 &&& (2147483647 : Int32)) % (22 : Int32))))] below meth c s₁ [] 0 0 := Stand.of_body Bd
  have e0 : s₁.heap = h0 := by rw [← hh, Bd.state]; rfl
  have N0 := Fr.nil n0
  have pre0 : ∀ t, Steps p.tables e below (s₁.setTop (mkF m 0 #[.val (.int (own_tab0 ((p2 &&& (2147483647 : Int32)) % (22 : Int32))))] [])) t → Steps p.tables e below (s₁.setTop (entryFrame m #[(.int (own_tab0 ((p2 &&& (2147483647 : Int32)) % (22 : Int32))))] 1)) t := fun t k => castTop (own_ef_rm14 m p1 p2 p3 A K cs ) k
  have KK0 : Keep h0 h0 [] := Keep.refl _ _
  have pre78 : ∀ t, Steps p.tables e below (s₁.setTop (mkF m 3 #[.val (.int (own_tab0 ((p2 &&& (2147483647 : Int32)) % (22 : Int32))))] [(.int (48 : Int32)), (.int (own_tab0 ((p2 &&& (2147483647 : Int32)) % (22 : Int32))))])) t → Steps p.tables e below (s₁.setTop (entryFrame m #[(.int (own_tab0 ((p2 &&& (2147483647 : Int32)) % (22 : Int32))))] 1)) t := fun t k => pre0 t (by
    show Steps p.tables e below (s₁.setTop (mkF m 0 #[.val (.int (own_tab0 ((p2 &&& (2147483647 : Int32)) % (22 : Int32))))] [])) _
    refine XS.iloadN X0.here hx rfl (hb hby own_d_prog_13_method_10_code_0) rfl ?_
    show Steps p.tables e below (s₁.setTop (mkF m 1 #[.val (.int (own_tab0 ((p2 &&& (2147483647 : Int32)) % (22 : Int32))))] [(.int (own_tab0 ((p2 &&& (2147483647 : Int32)) % (22 : Int32))))])) _
    refine XS.bipush X0.here hx rfl (hb hby own_d_prog_13_method_10_code_1) ?_
    exact k)
  by_cases hc3_79 : (own_tab0 ((p2 &&& (2147483647 : Int32)) % (22 : Int32))) < (48 : Int32)
  · have pre80 : ∀ t, Steps p.tables e below (s₁.setTop (mkF m 15 #[.val (.int (own_tab0 ((p2 &&& (2147483647 : Int32)) % (22 : Int32))))] [(.int (97 : Int32)), (.int (own_tab0 ((p2 &&& (2147483647 : Int32)) % (22 : Int32))))])) t → Steps p.tables e below (s₁.setTop (entryFrame m #[(.int (own_tab0 ((p2 &&& (2147483647 : Int32)) % (22 : Int32))))] 1)) t := fun t k => pre78 t (by
      show Steps p.tables e below (s₁.setTop (mkF m 3 #[.val (.int (own_tab0 ((p2 &&& (2147483647 : Int32)) % (22 : Int32))))] [(.int (48 : Int32)), (.int (own_tab0 ((p2 &&& (2147483647 : Int32)) % (22 : Int32))))])) _
      refine XS.icmpYes X0.here hx rfl (pc0 := 3) (pc' := 12) rfl (hb hby own_d_prog_13_method_10_code_3) rfl (tlt hc3_79).1 (by decide) (by decide) ?_
      show Steps p.tables e below (s₁.setTop (mkF m 12 #[.val (.int (own_tab0 ((p2 &&& (2147483647 : Int32)) % (22 : Int32))))] [])) _
      refine XS.iloadN X0.here hx rfl (hb hby own_d_prog_13_method_10_code_12) rfl ?_
      show Steps p.tables e below (s₁.setTop (mkF m 13 #[.val (.int (own_tab0 ((p2 &&& (2147483647 : Int32)) % (22 : Int32))))] [(.int (own_tab0 ((p2 &&& (2147483647 : Int32)) % (22 : Int32))))])) _
      refine XS.bipush X0.here hx rfl (hb hby own_d_prog_13_method_10_code_13) ?_
      exact k)
    by_cases hc15_81 : (own_tab0 ((p2 &&& (2147483647 : Int32)) % (22 : Int32))) < (97 : Int32)
    · have pre82 : ∀ t, Steps p.tables e below (s₁.setTop (mkF m 27 #[.val (.int (own_tab0 ((p2 &&& (2147483647 : Int32)) % (22 : Int32))))] [(.int (65 : Int32)), (.int (own_tab0 ((p2 &&& (2147483647 : Int32)) % (22 : Int32))))])) t → Steps p.tables e below (s₁.setTop (entryFrame m #[(.int (own_tab0 ((p2 &&& (2147483647 : Int32)) % (22 : Int32))))] 1)) t := fun t k => pre80 t (by
        show Steps p.tables e below (s₁.setTop (mkF m 15 #[.val (.int (own_tab0 ((p2 &&& (2147483647 : Int32)) % (22 : Int32))))] [(.int (97 : Int32)), (.int (own_tab0 ((p2 &&& (2147483647 : Int32)) % (22 : Int32))))])) _
        refine XS.icmpYes X0.here hx rfl (pc0 := 15) (pc' := 24) rfl (hb hby own_d_prog_13_method_10_code_15) rfl (tlt hc15_81).1 (by decide) (by decide) ?_
        show Steps p.tables e below (s₁.setTop (mkF m 24 #[.val (.int (own_tab0 ((p2 &&& (2147483647 : Int32)) % (22 : Int32))))] [])) _
        refine XS.iloadN X0.here hx rfl (hb hby own_d_prog_13_method_10_code_24) rfl ?_
        show Steps p.tables e below (s₁.setTop (mkF m 25 #[.val (.int (own_tab0 ((p2 &&& (2147483647 : Int32)) % (22 : Int32))))] [(.int (own_tab0 ((p2 &&& (2147483647 : Int32)) % (22 : Int32))))])) _
        refine XS.bipush X0.here hx rfl (hb hby own_d_prog_13_method_10_code_25) ?_
        exact k)
      by_cases hc27_83 : (own_tab0 ((p2 &&& (2147483647 : Int32)) % (22 : Int32))) < (65 : Int32)
      · obtain ⟨fs, hr, hrun, hended, hW, hsame⟩ := X0.leave (v := some (.int (0 : Int32))) (fun h => by rw [Bd.returns] at h; cases h)
        refine ⟨_, _, pre82 _ ?_, hrun, hended, _, _, rfl, ?_, ⟨_, rfl⟩, hW, hsame.mono (by decide) (by decide)⟩
        · show Steps p.tables e below (s₁.setTop (mkF m 27 #[.val (.int (own_tab0 ((p2 &&& (2147483647 : Int32)) % (22 : Int32))))] [(.int (65 : Int32)), (.int (own_tab0 ((p2 &&& (2147483647 : Int32)) % (22 : Int32))))])) _
          refine XS.icmpYes X0.here hx rfl (pc0 := 27) (pc' := 40) rfl (hb hby own_d_prog_13_method_10_code_27) rfl (tlt hc27_83).1 (by decide) (by decide) ?_
          show Steps p.tables e below (s₁.setTop (mkF m 40 #[.val (.int (own_tab0 ((p2 &&& (2147483647 : Int32)) % (22 : Int32))))] [])) _
          refine XS.iconst X0.here hx rfl (hb hby own_d_prog_13_method_10_code_40) ?_
          show Steps p.tables e below (s₁.setTop (mkF m 41 #[.val (.int (own_tab0 ((p2 &&& (2147483647 : Int32)) % (22 : Int32))))] [(.int (0 : Int32))])) _
          exact retN X0 hx (t := .boolean) Bd.returns (by simp) (hb hby own_d_prog_13_method_10_code_41) hr
        · show PQ (some (.int (own_f_rm14 p2))) h0 n0 _ s₁.heap _
          rw [e0]
          exact ⟨congrArg (fun z => some (Value.int z)) (by unfold own_f_rm14; rw [if_pos hc3_79, if_pos hc15_81, if_pos hc27_83]), N0, rfl⟩
      · have pre84 : ∀ t, Steps p.tables e below (s₁.setTop (mkF m 33 #[.val (.int (own_tab0 ((p2 &&& (2147483647 : Int32)) % (22 : Int32))))] [(.int (70 : Int32)), (.int (own_tab0 ((p2 &&& (2147483647 : Int32)) % (22 : Int32))))])) t → Steps p.tables e below (s₁.setTop (entryFrame m #[(.int (own_tab0 ((p2 &&& (2147483647 : Int32)) % (22 : Int32))))] 1)) t := fun t k => pre82 t (by
          show Steps p.tables e below (s₁.setTop (mkF m 27 #[.val (.int (own_tab0 ((p2 &&& (2147483647 : Int32)) % (22 : Int32))))] [(.int (65 : Int32)), (.int (own_tab0 ((p2 &&& (2147483647 : Int32)) % (22 : Int32))))])) _
          refine XS.icmpNo X0.here hx rfl (hb hby own_d_prog_13_method_10_code_27) rfl (flt hc27_83).1 ?_
          show Steps p.tables e below (s₁.setTop (mkF m 30 #[.val (.int (own_tab0 ((p2 &&& (2147483647 : Int32)) % (22 : Int32))))] [])) _
          refine XS.iloadN X0.here hx rfl (hb hby own_d_prog_13_method_10_code_30) rfl ?_
          show Steps p.tables e below (s₁.setTop (mkF m 31 #[.val (.int (own_tab0 ((p2 &&& (2147483647 : Int32)) % (22 : Int32))))] [(.int (own_tab0 ((p2 &&& (2147483647 : Int32)) % (22 : Int32))))])) _
          refine XS.bipush X0.here hx rfl (hb hby own_d_prog_13_method_10_code_31) ?_
          exact k)
        by_cases hc33_85 : (70 : Int32) < (own_tab0 ((p2 &&& (2147483647 : Int32)) % (22 : Int32)))
        · obtain ⟨fs, hr, hrun, hended, hW, hsame⟩ := X0.leave (v := some (.int (0 : Int32))) (fun h => by rw [Bd.returns] at h; cases h)
          refine ⟨_, _, pre84 _ ?_, hrun, hended, _, _, rfl, ?_, ⟨_, rfl⟩, hW, hsame.mono (by decide) (by decide)⟩
          · show Steps p.tables e below (s₁.setTop (mkF m 33 #[.val (.int (own_tab0 ((p2 &&& (2147483647 : Int32)) % (22 : Int32))))] [(.int (70 : Int32)), (.int (own_tab0 ((p2 &&& (2147483647 : Int32)) % (22 : Int32))))])) _
            refine XS.icmpYes X0.here hx rfl (pc0 := 33) (pc' := 40) rfl (hb hby own_d_prog_13_method_10_code_33) rfl (tlt hc33_85).2.2.1 (by decide) (by decide) ?_
            show Steps p.tables e below (s₁.setTop (mkF m 40 #[.val (.int (own_tab0 ((p2 &&& (2147483647 : Int32)) % (22 : Int32))))] [])) _
            refine XS.iconst X0.here hx rfl (hb hby own_d_prog_13_method_10_code_40) ?_
            show Steps p.tables e below (s₁.setTop (mkF m 41 #[.val (.int (own_tab0 ((p2 &&& (2147483647 : Int32)) % (22 : Int32))))] [(.int (0 : Int32))])) _
            exact retN X0 hx (t := .boolean) Bd.returns (by simp) (hb hby own_d_prog_13_method_10_code_41) hr
          · show PQ (some (.int (own_f_rm14 p2))) h0 n0 _ s₁.heap _
            rw [e0]
            exact ⟨congrArg (fun z => some (Value.int z)) (by unfold own_f_rm14; rw [if_pos hc3_79, if_pos hc15_81, if_neg hc27_83, if_pos hc33_85]), N0, rfl⟩
        · obtain ⟨fs, hr, hrun, hended, hW, hsame⟩ := X0.leave (v := some (.int (1 : Int32))) (fun h => by rw [Bd.returns] at h; cases h)
          refine ⟨_, _, pre84 _ ?_, hrun, hended, _, _, rfl, ?_, ⟨_, rfl⟩, hW, hsame.mono (by decide) (by decide)⟩
          · show Steps p.tables e below (s₁.setTop (mkF m 33 #[.val (.int (own_tab0 ((p2 &&& (2147483647 : Int32)) % (22 : Int32))))] [(.int (70 : Int32)), (.int (own_tab0 ((p2 &&& (2147483647 : Int32)) % (22 : Int32))))])) _
            refine XS.icmpNo X0.here hx rfl (hb hby own_d_prog_13_method_10_code_33) rfl (flt hc33_85).2.2.1 ?_
            show Steps p.tables e below (s₁.setTop (mkF m 36 #[.val (.int (own_tab0 ((p2 &&& (2147483647 : Int32)) % (22 : Int32))))] [])) _
            refine XS.iconst X0.here hx rfl (hb hby own_d_prog_13_method_10_code_36) ?_
            show Steps p.tables e below (s₁.setTop (mkF m 37 #[.val (.int (own_tab0 ((p2 &&& (2147483647 : Int32)) % (22 : Int32))))] [(.int (1 : Int32))])) _
            refine XS.goto X0.here hx rfl (pc0 := 37) (pc' := 41) rfl (hb hby own_d_prog_13_method_10_code_37) (by decide) (by decide) ?_
            show Steps p.tables e below (s₁.setTop (mkF m 41 #[.val (.int (own_tab0 ((p2 &&& (2147483647 : Int32)) % (22 : Int32))))] [(.int (1 : Int32))])) _
            exact retN X0 hx (t := .boolean) Bd.returns (by simp) (hb hby own_d_prog_13_method_10_code_41) hr
          · show PQ (some (.int (own_f_rm14 p2))) h0 n0 _ s₁.heap _
            rw [e0]
            exact ⟨congrArg (fun z => some (Value.int z)) (by unfold own_f_rm14; rw [if_pos hc3_79, if_pos hc15_81, if_neg hc27_83, if_neg hc33_85]), N0, rfl⟩
    · have pre86 : ∀ t, Steps p.tables e below (s₁.setTop (mkF m 21 #[.val (.int (own_tab0 ((p2 &&& (2147483647 : Int32)) % (22 : Int32))))] [(.int (102 : Int32)), (.int (own_tab0 ((p2 &&& (2147483647 : Int32)) % (22 : Int32))))])) t → Steps p.tables e below (s₁.setTop (entryFrame m #[(.int (own_tab0 ((p2 &&& (2147483647 : Int32)) % (22 : Int32))))] 1)) t := fun t k => pre80 t (by
        show Steps p.tables e below (s₁.setTop (mkF m 15 #[.val (.int (own_tab0 ((p2 &&& (2147483647 : Int32)) % (22 : Int32))))] [(.int (97 : Int32)), (.int (own_tab0 ((p2 &&& (2147483647 : Int32)) % (22 : Int32))))])) _
        refine XS.icmpNo X0.here hx rfl (hb hby own_d_prog_13_method_10_code_15) rfl (flt hc15_81).1 ?_
        show Steps p.tables e below (s₁.setTop (mkF m 18 #[.val (.int (own_tab0 ((p2 &&& (2147483647 : Int32)) % (22 : Int32))))] [])) _
        refine XS.iloadN X0.here hx rfl (hb hby own_d_prog_13_method_10_code_18) rfl ?_
        show Steps p.tables e below (s₁.setTop (mkF m 19 #[.val (.int (own_tab0 ((p2 &&& (2147483647 : Int32)) % (22 : Int32))))] [(.int (own_tab0 ((p2 &&& (2147483647 : Int32)) % (22 : Int32))))])) _
        refine XS.bipush X0.here hx rfl (hb hby own_d_prog_13_method_10_code_19) ?_
        exact k)
      by_cases hc21_87 : (102 : Int32) < (own_tab0 ((p2 &&& (2147483647 : Int32)) % (22 : Int32)))
      · have pre88 : ∀ t, Steps p.tables e below (s₁.setTop (mkF m 27 #[.val (.int (own_tab0 ((p2 &&& (2147483647 : Int32)) % (22 : Int32))))] [(.int (65 : Int32)), (.int (own_tab0 ((p2 &&& (2147483647 : Int32)) % (22 : Int32))))])) t → Steps p.tables e below (s₁.setTop (entryFrame m #[(.int (own_tab0 ((p2 &&& (2147483647 : Int32)) % (22 : Int32))))] 1)) t := fun t k => pre86 t (by
          show Steps p.tables e below (s₁.setTop (mkF m 21 #[.val (.int (own_tab0 ((p2 &&& (2147483647 : Int32)) % (22 : Int32))))] [(.int (102 : Int32)), (.int (own_tab0 ((p2 &&& (2147483647 : Int32)) % (22 : Int32))))])) _
          refine XS.icmpNo X0.here hx rfl (hb hby own_d_prog_13_method_10_code_21) rfl (tlt hc21_87).2.2.2 ?_
          show Steps p.tables e below (s₁.setTop (mkF m 24 #[.val (.int (own_tab0 ((p2 &&& (2147483647 : Int32)) % (22 : Int32))))] [])) _
          refine XS.iloadN X0.here hx rfl (hb hby own_d_prog_13_method_10_code_24) rfl ?_
          show Steps p.tables e below (s₁.setTop (mkF m 25 #[.val (.int (own_tab0 ((p2 &&& (2147483647 : Int32)) % (22 : Int32))))] [(.int (own_tab0 ((p2 &&& (2147483647 : Int32)) % (22 : Int32))))])) _
          refine XS.bipush X0.here hx rfl (hb hby own_d_prog_13_method_10_code_25) ?_
          exact k)
        by_cases hc27_89 : (own_tab0 ((p2 &&& (2147483647 : Int32)) % (22 : Int32))) < (65 : Int32)
        · obtain ⟨fs, hr, hrun, hended, hW, hsame⟩ := X0.leave (v := some (.int (0 : Int32))) (fun h => by rw [Bd.returns] at h; cases h)
          refine ⟨_, _, pre88 _ ?_, hrun, hended, _, _, rfl, ?_, ⟨_, rfl⟩, hW, hsame.mono (by decide) (by decide)⟩
          · show Steps p.tables e below (s₁.setTop (mkF m 27 #[.val (.int (own_tab0 ((p2 &&& (2147483647 : Int32)) % (22 : Int32))))] [(.int (65 : Int32)), (.int (own_tab0 ((p2 &&& (2147483647 : Int32)) % (22 : Int32))))])) _
            refine XS.icmpYes X0.here hx rfl (pc0 := 27) (pc' := 40) rfl (hb hby own_d_prog_13_method_10_code_27) rfl (tlt hc27_89).1 (by decide) (by decide) ?_
            show Steps p.tables e below (s₁.setTop (mkF m 40 #[.val (.int (own_tab0 ((p2 &&& (2147483647 : Int32)) % (22 : Int32))))] [])) _
            refine XS.iconst X0.here hx rfl (hb hby own_d_prog_13_method_10_code_40) ?_
            show Steps p.tables e below (s₁.setTop (mkF m 41 #[.val (.int (own_tab0 ((p2 &&& (2147483647 : Int32)) % (22 : Int32))))] [(.int (0 : Int32))])) _
            exact retN X0 hx (t := .boolean) Bd.returns (by simp) (hb hby own_d_prog_13_method_10_code_41) hr
          · show PQ (some (.int (own_f_rm14 p2))) h0 n0 _ s₁.heap _
            rw [e0]
            exact ⟨congrArg (fun z => some (Value.int z)) (by unfold own_f_rm14; rw [if_pos hc3_79, if_neg hc15_81, if_pos hc21_87, if_pos hc27_89]), N0, rfl⟩
        · have pre90 : ∀ t, Steps p.tables e below (s₁.setTop (mkF m 33 #[.val (.int (own_tab0 ((p2 &&& (2147483647 : Int32)) % (22 : Int32))))] [(.int (70 : Int32)), (.int (own_tab0 ((p2 &&& (2147483647 : Int32)) % (22 : Int32))))])) t → Steps p.tables e below (s₁.setTop (entryFrame m #[(.int (own_tab0 ((p2 &&& (2147483647 : Int32)) % (22 : Int32))))] 1)) t := fun t k => pre88 t (by
            show Steps p.tables e below (s₁.setTop (mkF m 27 #[.val (.int (own_tab0 ((p2 &&& (2147483647 : Int32)) % (22 : Int32))))] [(.int (65 : Int32)), (.int (own_tab0 ((p2 &&& (2147483647 : Int32)) % (22 : Int32))))])) _
            refine XS.icmpNo X0.here hx rfl (hb hby own_d_prog_13_method_10_code_27) rfl (flt hc27_89).1 ?_
            show Steps p.tables e below (s₁.setTop (mkF m 30 #[.val (.int (own_tab0 ((p2 &&& (2147483647 : Int32)) % (22 : Int32))))] [])) _
            refine XS.iloadN X0.here hx rfl (hb hby own_d_prog_13_method_10_code_30) rfl ?_
            show Steps p.tables e below (s₁.setTop (mkF m 31 #[.val (.int (own_tab0 ((p2 &&& (2147483647 : Int32)) % (22 : Int32))))] [(.int (own_tab0 ((p2 &&& (2147483647 : Int32)) % (22 : Int32))))])) _
            refine XS.bipush X0.here hx rfl (hb hby own_d_prog_13_method_10_code_31) ?_
            exact k)
          by_cases hc33_91 : (70 : Int32) < (own_tab0 ((p2 &&& (2147483647 : Int32)) % (22 : Int32)))
          · obtain ⟨fs, hr, hrun, hended, hW, hsame⟩ := X0.leave (v := some (.int (0 : Int32))) (fun h => by rw [Bd.returns] at h; cases h)
            refine ⟨_, _, pre90 _ ?_, hrun, hended, _, _, rfl, ?_, ⟨_, rfl⟩, hW, hsame.mono (by decide) (by decide)⟩
            · show Steps p.tables e below (s₁.setTop (mkF m 33 #[.val (.int (own_tab0 ((p2 &&& (2147483647 : Int32)) % (22 : Int32))))] [(.int (70 : Int32)), (.int (own_tab0 ((p2 &&& (2147483647 : Int32)) % (22 : Int32))))])) _
              refine XS.icmpYes X0.here hx rfl (pc0 := 33) (pc' := 40) rfl (hb hby own_d_prog_13_method_10_code_33) rfl (tlt hc33_91).2.2.1 (by decide) (by decide) ?_
              show Steps p.tables e below (s₁.setTop (mkF m 40 #[.val (.int (own_tab0 ((p2 &&& (2147483647 : Int32)) % (22 : Int32))))] [])) _
              refine XS.iconst X0.here hx rfl (hb hby own_d_prog_13_method_10_code_40) ?_
              show Steps p.tables e below (s₁.setTop (mkF m 41 #[.val (.int (own_tab0 ((p2 &&& (2147483647 : Int32)) % (22 : Int32))))] [(.int (0 : Int32))])) _
              exact retN X0 hx (t := .boolean) Bd.returns (by simp) (hb hby own_d_prog_13_method_10_code_41) hr
            · show PQ (some (.int (own_f_rm14 p2))) h0 n0 _ s₁.heap _
              rw [e0]
              exact ⟨congrArg (fun z => some (Value.int z)) (by unfold own_f_rm14; rw [if_pos hc3_79, if_neg hc15_81, if_pos hc21_87, if_neg hc27_89, if_pos hc33_91]), N0, rfl⟩
          · obtain ⟨fs, hr, hrun, hended, hW, hsame⟩ := X0.leave (v := some (.int (1 : Int32))) (fun h => by rw [Bd.returns] at h; cases h)
            refine ⟨_, _, pre90 _ ?_, hrun, hended, _, _, rfl, ?_, ⟨_, rfl⟩, hW, hsame.mono (by decide) (by decide)⟩
            · show Steps p.tables e below (s₁.setTop (mkF m 33 #[.val (.int (own_tab0 ((p2 &&& (2147483647 : Int32)) % (22 : Int32))))] [(.int (70 : Int32)), (.int (own_tab0 ((p2 &&& (2147483647 : Int32)) % (22 : Int32))))])) _
              refine XS.icmpNo X0.here hx rfl (hb hby own_d_prog_13_method_10_code_33) rfl (flt hc33_91).2.2.1 ?_
              show Steps p.tables e below (s₁.setTop (mkF m 36 #[.val (.int (own_tab0 ((p2 &&& (2147483647 : Int32)) % (22 : Int32))))] [])) _
              refine XS.iconst X0.here hx rfl (hb hby own_d_prog_13_method_10_code_36) ?_
              show Steps p.tables e below (s₁.setTop (mkF m 37 #[.val (.int (own_tab0 ((p2 &&& (2147483647 : Int32)) % (22 : Int32))))] [(.int (1 : Int32))])) _
              refine XS.goto X0.here hx rfl (pc0 := 37) (pc' := 41) rfl (hb hby own_d_prog_13_method_10_code_37) (by decide) (by decide) ?_
              show Steps p.tables e below (s₁.setTop (mkF m 41 #[.val (.int (own_tab0 ((p2 &&& (2147483647 : Int32)) % (22 : Int32))))] [(.int (1 : Int32))])) _
              exact retN X0 hx (t := .boolean) Bd.returns (by simp) (hb hby own_d_prog_13_method_10_code_41) hr
            · show PQ (some (.int (own_f_rm14 p2))) h0 n0 _ s₁.heap _
              rw [e0]
              exact ⟨congrArg (fun z => some (Value.int z)) (by unfold own_f_rm14; rw [if_pos hc3_79, if_neg hc15_81, if_pos hc21_87, if_neg hc27_89, if_neg hc33_91]), N0, rfl⟩
      · obtain ⟨fs, hr, hrun, hended, hW, hsame⟩ := X0.leave (v := some (.int (1 : Int32))) (fun h => by rw [Bd.returns] at h; cases h)
        refine ⟨_, _, pre86 _ ?_, hrun, hended, _, _, rfl, ?_, ⟨_, rfl⟩, hW, hsame.mono (by decide) (by decide)⟩
        · show Steps p.tables e below (s₁.setTop (mkF m 21 #[.val (.int (own_tab0 ((p2 &&& (2147483647 : Int32)) % (22 : Int32))))] [(.int (102 : Int32)), (.int (own_tab0 ((p2 &&& (2147483647 : Int32)) % (22 : Int32))))])) _
          refine XS.icmpYes X0.here hx rfl (pc0 := 21) (pc' := 36) rfl (hb hby own_d_prog_13_method_10_code_21) rfl (flt hc21_87).2.2.2 (by decide) (by decide) ?_
          show Steps p.tables e below (s₁.setTop (mkF m 36 #[.val (.int (own_tab0 ((p2 &&& (2147483647 : Int32)) % (22 : Int32))))] [])) _
          refine XS.iconst X0.here hx rfl (hb hby own_d_prog_13_method_10_code_36) ?_
          show Steps p.tables e below (s₁.setTop (mkF m 37 #[.val (.int (own_tab0 ((p2 &&& (2147483647 : Int32)) % (22 : Int32))))] [(.int (1 : Int32))])) _
          refine XS.goto X0.here hx rfl (pc0 := 37) (pc' := 41) rfl (hb hby own_d_prog_13_method_10_code_37) (by decide) (by decide) ?_
          show Steps p.tables e below (s₁.setTop (mkF m 41 #[.val (.int (own_tab0 ((p2 &&& (2147483647 : Int32)) % (22 : Int32))))] [(.int (1 : Int32))])) _
          exact retN X0 hx (t := .boolean) Bd.returns (by simp) (hb hby own_d_prog_13_method_10_code_41) hr
        · show PQ (some (.int (own_f_rm14 p2))) h0 n0 _ s₁.heap _
          rw [e0]
          exact ⟨congrArg (fun z => some (Value.int z)) (by unfold own_f_rm14; rw [if_pos hc3_79, if_neg hc15_81, if_neg hc21_87]), N0, rfl⟩
  · have pre92 : ∀ t, Steps p.tables e below (s₁.setTop (mkF m 9 #[.val (.int (own_tab0 ((p2 &&& (2147483647 : Int32)) % (22 : Int32))))] [(.int (57 : Int32)), (.int (own_tab0 ((p2 &&& (2147483647 : Int32)) % (22 : Int32))))])) t → Steps p.tables e below (s₁.setTop (entryFrame m #[(.int (own_tab0 ((p2 &&& (2147483647 : Int32)) % (22 : Int32))))] 1)) t := fun t k => pre78 t (by
      show Steps p.tables e below (s₁.setTop (mkF m 3 #[.val (.int (own_tab0 ((p2 &&& (2147483647 : Int32)) % (22 : Int32))))] [(.int (48 : Int32)), (.int (own_tab0 ((p2 &&& (2147483647 : Int32)) % (22 : Int32))))])) _
      refine XS.icmpNo X0.here hx rfl (hb hby own_d_prog_13_method_10_code_3) rfl (flt hc3_79).1 ?_
      show Steps p.tables e below (s₁.setTop (mkF m 6 #[.val (.int (own_tab0 ((p2 &&& (2147483647 : Int32)) % (22 : Int32))))] [])) _
      refine XS.iloadN X0.here hx rfl (hb hby own_d_prog_13_method_10_code_6) rfl ?_
      show Steps p.tables e below (s₁.setTop (mkF m 7 #[.val (.int (own_tab0 ((p2 &&& (2147483647 : Int32)) % (22 : Int32))))] [(.int (own_tab0 ((p2 &&& (2147483647 : Int32)) % (22 : Int32))))])) _
      refine XS.bipush X0.here hx rfl (hb hby own_d_prog_13_method_10_code_7) ?_
      exact k)
    by_cases hc9_93 : (57 : Int32) < (own_tab0 ((p2 &&& (2147483647 : Int32)) % (22 : Int32)))
    · have pre94 : ∀ t, Steps p.tables e below (s₁.setTop (mkF m 15 #[.val (.int (own_tab0 ((p2 &&& (2147483647 : Int32)) % (22 : Int32))))] [(.int (97 : Int32)), (.int (own_tab0 ((p2 &&& (2147483647 : Int32)) % (22 : Int32))))])) t → Steps p.tables e below (s₁.setTop (entryFrame m #[(.int (own_tab0 ((p2 &&& (2147483647 : Int32)) % (22 : Int32))))] 1)) t := fun t k => pre92 t (by
        show Steps p.tables e below (s₁.setTop (mkF m 9 #[.val (.int (own_tab0 ((p2 &&& (2147483647 : Int32)) % (22 : Int32))))] [(.int (57 : Int32)), (.int (own_tab0 ((p2 &&& (2147483647 : Int32)) % (22 : Int32))))])) _
        refine XS.icmpNo X0.here hx rfl (hb hby own_d_prog_13_method_10_code_9) rfl (tlt hc9_93).2.2.2 ?_
        show Steps p.tables e below (s₁.setTop (mkF m 12 #[.val (.int (own_tab0 ((p2 &&& (2147483647 : Int32)) % (22 : Int32))))] [])) _
        refine XS.iloadN X0.here hx rfl (hb hby own_d_prog_13_method_10_code_12) rfl ?_
        show Steps p.tables e below (s₁.setTop (mkF m 13 #[.val (.int (own_tab0 ((p2 &&& (2147483647 : Int32)) % (22 : Int32))))] [(.int (own_tab0 ((p2 &&& (2147483647 : Int32)) % (22 : Int32))))])) _
        refine XS.bipush X0.here hx rfl (hb hby own_d_prog_13_method_10_code_13) ?_
        exact k)
      by_cases hc15_95 : (own_tab0 ((p2 &&& (2147483647 : Int32)) % (22 : Int32))) < (97 : Int32)
      · have pre96 : ∀ t, Steps p.tables e below (s₁.setTop (mkF m 27 #[.val (.int (own_tab0 ((p2 &&& (2147483647 : Int32)) % (22 : Int32))))] [(.int (65 : Int32)), (.int (own_tab0 ((p2 &&& (2147483647 : Int32)) % (22 : Int32))))])) t → Steps p.tables e below (s₁.setTop (entryFrame m #[(.int (own_tab0 ((p2 &&& (2147483647 : Int32)) % (22 : Int32))))] 1)) t := fun t k => pre94 t (by
          show Steps p.tables e below (s₁.setTop (mkF m 15 #[.val (.int (own_tab0 ((p2 &&& (2147483647 : Int32)) % (22 : Int32))))] [(.int (97 : Int32)), (.int (own_tab0 ((p2 &&& (2147483647 : Int32)) % (22 : Int32))))])) _
          refine XS.icmpYes X0.here hx rfl (pc0 := 15) (pc' := 24) rfl (hb hby own_d_prog_13_method_10_code_15) rfl (tlt hc15_95).1 (by decide) (by decide) ?_
          show Steps p.tables e below (s₁.setTop (mkF m 24 #[.val (.int (own_tab0 ((p2 &&& (2147483647 : Int32)) % (22 : Int32))))] [])) _
          refine XS.iloadN X0.here hx rfl (hb hby own_d_prog_13_method_10_code_24) rfl ?_
          show Steps p.tables e below (s₁.setTop (mkF m 25 #[.val (.int (own_tab0 ((p2 &&& (2147483647 : Int32)) % (22 : Int32))))] [(.int (own_tab0 ((p2 &&& (2147483647 : Int32)) % (22 : Int32))))])) _
          refine XS.bipush X0.here hx rfl (hb hby own_d_prog_13_method_10_code_25) ?_
          exact k)
        by_cases hc27_97 : (own_tab0 ((p2 &&& (2147483647 : Int32)) % (22 : Int32))) < (65 : Int32)
        · obtain ⟨fs, hr, hrun, hended, hW, hsame⟩ := X0.leave (v := some (.int (0 : Int32))) (fun h => by rw [Bd.returns] at h; cases h)
          refine ⟨_, _, pre96 _ ?_, hrun, hended, _, _, rfl, ?_, ⟨_, rfl⟩, hW, hsame.mono (by decide) (by decide)⟩
          · show Steps p.tables e below (s₁.setTop (mkF m 27 #[.val (.int (own_tab0 ((p2 &&& (2147483647 : Int32)) % (22 : Int32))))] [(.int (65 : Int32)), (.int (own_tab0 ((p2 &&& (2147483647 : Int32)) % (22 : Int32))))])) _
            refine XS.icmpYes X0.here hx rfl (pc0 := 27) (pc' := 40) rfl (hb hby own_d_prog_13_method_10_code_27) rfl (tlt hc27_97).1 (by decide) (by decide) ?_
            show Steps p.tables e below (s₁.setTop (mkF m 40 #[.val (.int (own_tab0 ((p2 &&& (2147483647 : Int32)) % (22 : Int32))))] [])) _
            refine XS.iconst X0.here hx rfl (hb hby own_d_prog_13_method_10_code_40) ?_
            show Steps p.tables e below (s₁.setTop (mkF m 41 #[.val (.int (own_tab0 ((p2 &&& (2147483647 : Int32)) % (22 : Int32))))] [(.int (0 : Int32))])) _
            exact retN X0 hx (t := .boolean) Bd.returns (by simp) (hb hby own_d_prog_13_method_10_code_41) hr
          · show PQ (some (.int (own_f_rm14 p2))) h0 n0 _ s₁.heap _
            rw [e0]
            exact ⟨congrArg (fun z => some (Value.int z)) (by unfold own_f_rm14; rw [if_neg hc3_79, if_pos hc9_93, if_pos hc15_95, if_pos hc27_97]), N0, rfl⟩
        · have pre98 : ∀ t, Steps p.tables e below (s₁.setTop (mkF m 33 #[.val (.int (own_tab0 ((p2 &&& (2147483647 : Int32)) % (22 : Int32))))] [(.int (70 : Int32)), (.int (own_tab0 ((p2 &&& (2147483647 : Int32)) % (22 : Int32))))])) t → Steps p.tables e below (s₁.setTop (entryFrame m #[(.int (own_tab0 ((p2 &&& (2147483647 : Int32)) % (22 : Int32))))] 1)) t := fun t k => pre96 t (by
            show Steps p.tables e below (s₁.setTop (mkF m 27 #[.val (.int (own_tab0 ((p2 &&& (2147483647 : Int32)) % (22 : Int32))))] [(.int (65 : Int32)), (.int (own_tab0 ((p2 &&& (2147483647 : Int32)) % (22 : Int32))))])) _
            refine XS.icmpNo X0.here hx rfl (hb hby own_d_prog_13_method_10_code_27) rfl (flt hc27_97).1 ?_
            show Steps p.tables e below (s₁.setTop (mkF m 30 #[.val (.int (own_tab0 ((p2 &&& (2147483647 : Int32)) % (22 : Int32))))] [])) _
            refine XS.iloadN X0.here hx rfl (hb hby own_d_prog_13_method_10_code_30) rfl ?_
            show Steps p.tables e below (s₁.setTop (mkF m 31 #[.val (.int (own_tab0 ((p2 &&& (2147483647 : Int32)) % (22 : Int32))))] [(.int (own_tab0 ((p2 &&& (2147483647 : Int32)) % (22 : Int32))))])) _
            refine XS.bipush X0.here hx rfl (hb hby own_d_prog_13_method_10_code_31) ?_
            exact k)
          by_cases hc33_99 : (70 : Int32) < (own_tab0 ((p2 &&& (2147483647 : Int32)) % (22 : Int32)))
          · obtain ⟨fs, hr, hrun, hended, hW, hsame⟩ := X0.leave (v := some (.int (0 : Int32))) (fun h => by rw [Bd.returns] at h; cases h)
            refine ⟨_, _, pre98 _ ?_, hrun, hended, _, _, rfl, ?_, ⟨_, rfl⟩, hW, hsame.mono (by decide) (by decide)⟩
            · show Steps p.tables e below (s₁.setTop (mkF m 33 #[.val (.int (own_tab0 ((p2 &&& (2147483647 : Int32)) % (22 : Int32))))] [(.int (70 : Int32)), (.int (own_tab0 ((p2 &&& (2147483647 : Int32)) % (22 : Int32))))])) _
              refine XS.icmpYes X0.here hx rfl (pc0 := 33) (pc' := 40) rfl (hb hby own_d_prog_13_method_10_code_33) rfl (tlt hc33_99).2.2.1 (by decide) (by decide) ?_
              show Steps p.tables e below (s₁.setTop (mkF m 40 #[.val (.int (own_tab0 ((p2 &&& (2147483647 : Int32)) % (22 : Int32))))] [])) _
              refine XS.iconst X0.here hx rfl (hb hby own_d_prog_13_method_10_code_40) ?_
              show Steps p.tables e below (s₁.setTop (mkF m 41 #[.val (.int (own_tab0 ((p2 &&& (2147483647 : Int32)) % (22 : Int32))))] [(.int (0 : Int32))])) _
              exact retN X0 hx (t := .boolean) Bd.returns (by simp) (hb hby own_d_prog_13_method_10_code_41) hr
            · show PQ (some (.int (own_f_rm14 p2))) h0 n0 _ s₁.heap _
              rw [e0]
              exact ⟨congrArg (fun z => some (Value.int z)) (by unfold own_f_rm14; rw [if_neg hc3_79, if_pos hc9_93, if_pos hc15_95, if_neg hc27_97, if_pos hc33_99]), N0, rfl⟩
          · obtain ⟨fs, hr, hrun, hended, hW, hsame⟩ := X0.leave (v := some (.int (1 : Int32))) (fun h => by rw [Bd.returns] at h; cases h)
            refine ⟨_, _, pre98 _ ?_, hrun, hended, _, _, rfl, ?_, ⟨_, rfl⟩, hW, hsame.mono (by decide) (by decide)⟩
            · show Steps p.tables e below (s₁.setTop (mkF m 33 #[.val (.int (own_tab0 ((p2 &&& (2147483647 : Int32)) % (22 : Int32))))] [(.int (70 : Int32)), (.int (own_tab0 ((p2 &&& (2147483647 : Int32)) % (22 : Int32))))])) _
              refine XS.icmpNo X0.here hx rfl (hb hby own_d_prog_13_method_10_code_33) rfl (flt hc33_99).2.2.1 ?_
              show Steps p.tables e below (s₁.setTop (mkF m 36 #[.val (.int (own_tab0 ((p2 &&& (2147483647 : Int32)) % (22 : Int32))))] [])) _
              refine XS.iconst X0.here hx rfl (hb hby own_d_prog_13_method_10_code_36) ?_
              show Steps p.tables e below (s₁.setTop (mkF m 37 #[.val (.int (own_tab0 ((p2 &&& (2147483647 : Int32)) % (22 : Int32))))] [(.int (1 : Int32))])) _
              refine XS.goto X0.here hx rfl (pc0 := 37) (pc' := 41) rfl (hb hby own_d_prog_13_method_10_code_37) (by decide) (by decide) ?_
              show Steps p.tables e below (s₁.setTop (mkF m 41 #[.val (.int (own_tab0 ((p2 &&& (2147483647 : Int32)) % (22 : Int32))))] [(.int (1 : Int32))])) _
              exact retN X0 hx (t := .boolean) Bd.returns (by simp) (hb hby own_d_prog_13_method_10_code_41) hr
            · show PQ (some (.int (own_f_rm14 p2))) h0 n0 _ s₁.heap _
              rw [e0]
              exact ⟨congrArg (fun z => some (Value.int z)) (by unfold own_f_rm14; rw [if_neg hc3_79, if_pos hc9_93, if_pos hc15_95, if_neg hc27_97, if_neg hc33_99]), N0, rfl⟩
      · have pre100 : ∀ t, Steps p.tables e below (s₁.setTop (mkF m 21 #[.val (.int (own_tab0 ((p2 &&& (2147483647 : Int32)) % (22 : Int32))))] [(.int (102 : Int32)), (.int (own_tab0 ((p2 &&& (2147483647 : Int32)) % (22 : Int32))))])) t → Steps p.tables e below (s₁.setTop (entryFrame m #[(.int (own_tab0 ((p2 &&& (2147483647 : Int32)) % (22 : Int32))))] 1)) t := fun t k => pre94 t (by
          show Steps p.tables e below (s₁.setTop (mkF m 15 #[.val (.int (own_tab0 ((p2 &&& (2147483647 : Int32)) % (22 : Int32))))] [(.int (97 : Int32)), (.int (own_tab0 ((p2 &&& (2147483647 : Int32)) % (22 : Int32))))])) _
          refine XS.icmpNo X0.here hx rfl (hb hby own_d_prog_13_method_10_code_15) rfl (flt hc15_95).1 ?_
          show Steps p.tables e below (s₁.setTop (mkF m 18 #[.val (.int (own_tab0 ((p2 &&& (2147483647 : Int32)) % (22 : Int32))))] [])) _
          refine XS.iloadN X0.here hx rfl (hb hby own_d_prog_13_method_10_code_18) rfl ?_
          show Steps p.tables e below (s₁.setTop (mkF m 19 #[.val (.int (own_tab0 ((p2 &&& (2147483647 : Int32)) % (22 : Int32))))] [(.int (own_tab0 ((p2 &&& (2147483647 : Int32)) % (22 : Int32))))])) _
          refine XS.bipush X0.here hx rfl (hb hby own_d_prog_13_method_10_code_19) ?_
          exact k)
        by_cases hc21_101 : (102 : Int32) < (own_tab0 ((p2 &&& (2147483647 : Int32)) % (22 : Int32)))
        · have pre102 : ∀ t, Steps p.tables e below (s₁.setTop (mkF m 27 #[.val (.int (own_tab0 ((p2 &&& (2147483647 : Int32)) % (22 : Int32))))] [(.int (65 : Int32)), (.int (own_tab0 ((p2 &&& (2147483647 : Int32)) % (22 : Int32))))])) t → Steps p.tables e below (s₁.setTop (entryFrame m #[(.int (own_tab0 ((p2 &&& (2147483647 : Int32)) % (22 : Int32))))] 1)) t := fun t k => pre100 t (by
            show Steps p.tables e below (s₁.setTop (mkF m 21 #[.val (.int (own_tab0 ((p2 &&& (2147483647 : Int32)) % (22 : Int32))))] [(.int (102 : Int32)), (.int (own_tab0 ((p2 &&& (2147483647 : Int32)) % (22 : Int32))))])) _
            refine XS.icmpNo X0.here hx rfl (hb hby own_d_prog_13_method_10_code_21) rfl (tlt hc21_101).2.2.2 ?_
            show Steps p.tables e below (s₁.setTop (mkF m 24 #[.val (.int (own_tab0 ((p2 &&& (2147483647 : Int32)) % (22 : Int32))))] [])) _
            refine XS.iloadN X0.here hx rfl (hb hby own_d_prog_13_method_10_code_24) rfl ?_
            show Steps p.tables e below (s₁.setTop (mkF m 25 #[.val (.int (own_tab0 ((p2 &&& (2147483647 : Int32)) % (22 : Int32))))] [(.int (own_tab0 ((p2 &&& (2147483647 : Int32)) % (22 : Int32))))])) _
            refine XS.bipush X0.here hx rfl (hb hby own_d_prog_13_method_10_code_25) ?_
            exact k)
          by_cases hc27_103 : (own_tab0 ((p2 &&& (2147483647 : Int32)) % (22 : Int32))) < (65 : Int32)
          · obtain ⟨fs, hr, hrun, hended, hW, hsame⟩ := X0.leave (v := some (.int (0 : Int32))) (fun h => by rw [Bd.returns] at h; cases h)
            refine ⟨_, _, pre102 _ ?_, hrun, hended, _, _, rfl, ?_, ⟨_, rfl⟩, hW, hsame.mono (by decide) (by decide)⟩
            · show Steps p.tables e below (s₁.setTop (mkF m 27 #[.val (.int (own_tab0 ((p2 &&& (2147483647 : Int32)) % (22 : Int32))))] [(.int (65 : Int32)), (.int (own_tab0 ((p2 &&& (2147483647 : Int32)) % (22 : Int32))))])) _
              refine XS.icmpYes X0.here hx rfl (pc0 := 27) (pc' := 40) rfl (hb hby own_d_prog_13_method_10_code_27) rfl (tlt hc27_103).1 (by decide) (by decide) ?_
              show Steps p.tables e below (s₁.setTop (mkF m 40 #[.val (.int (own_tab0 ((p2 &&& (2147483647 : Int32)) % (22 : Int32))))] [])) _
              refine XS.iconst X0.here hx rfl (hb hby own_d_prog_13_method_10_code_40) ?_
              show Steps p.tables e below (s₁.setTop (mkF m 41 #[.val (.int (own_tab0 ((p2 &&& (2147483647 : Int32)) % (22 : Int32))))] [(.int (0 : Int32))])) _
              exact retN X0 hx (t := .boolean) Bd.returns (by simp) (hb hby own_d_prog_13_method_10_code_41) hr
            · show PQ (some (.int (own_f_rm14 p2))) h0 n0 _ s₁.heap _
              rw [e0]
              exact ⟨congrArg (fun z => some (Value.int z)) (by unfold own_f_rm14; rw [if_neg hc3_79, if_pos hc9_93, if_neg hc15_95, if_pos hc21_101, if_pos hc27_103]), N0, rfl⟩
          · have pre104 : ∀ t, Steps p.tables e below (s₁.setTop (mkF m 33 #[.val (.int (own_tab0 ((p2 &&& (2147483647 : Int32)) % (22 : Int32))))] [(.int (70 : Int32)), (.int (own_tab0 ((p2 &&& (2147483647 : Int32)) % (22 : Int32))))])) t → Steps p.tables e below (s₁.setTop (entryFrame m #[(.int (own_tab0 ((p2 &&& (2147483647 : Int32)) % (22 : Int32))))] 1)) t := fun t k => pre102 t (by
              show Steps p.tables e below (s₁.setTop (mkF m 27 #[.val (.int (own_tab0 ((p2 &&& (2147483647 : Int32)) % (22 : Int32))))] [(.int (65 : Int32)), (.int (own_tab0 ((p2 &&& (2147483647 : Int32)) % (22 : Int32))))])) _
              refine XS.icmpNo X0.here hx rfl (hb hby own_d_prog_13_method_10_code_27) rfl (flt hc27_103).1 ?_
              show Steps p.tables e below (s₁.setTop (mkF m 30 #[.val (.int (own_tab0 ((p2 &&& (2147483647 : Int32)) % (22 : Int32))))] [])) _
              refine XS.iloadN X0.here hx rfl (hb hby own_d_prog_13_method_10_code_30) rfl ?_
              show Steps p.tables e below (s₁.setTop (mkF m 31 #[.val (.int (own_tab0 ((p2 &&& (2147483647 : Int32)) % (22 : Int32))))] [(.int (own_tab0 ((p2 &&& (2147483647 : Int32)) % (22 : Int32))))])) _
              refine XS.bipush X0.here hx rfl (hb hby own_d_prog_13_method_10_code_31) ?_
              exact k)
            by_cases hc33_105 : (70 : Int32) < (own_tab0 ((p2 &&& (2147483647 : Int32)) % (22 : Int32)))
            · obtain ⟨fs, hr, hrun, hended, hW, hsame⟩ := X0.leave (v := some (.int (0 : Int32))) (fun h => by rw [Bd.returns] at h; cases h)
              refine ⟨_, _, pre104 _ ?_, hrun, hended, _, _, rfl, ?_, ⟨_, rfl⟩, hW, hsame.mono (by decide) (by decide)⟩
              · show Steps p.tables e below (s₁.setTop (mkF m 33 #[.val (.int (own_tab0 ((p2 &&& (2147483647 : Int32)) % (22 : Int32))))] [(.int (70 : Int32)), (.int (own_tab0 ((p2 &&& (2147483647 : Int32)) % (22 : Int32))))])) _
                refine XS.icmpYes X0.here hx rfl (pc0 := 33) (pc' := 40) rfl (hb hby own_d_prog_13_method_10_code_33) rfl (tlt hc33_105).2.2.1 (by decide) (by decide) ?_
                show Steps p.tables e below (s₁.setTop (mkF m 40 #[.val (.int (own_tab0 ((p2 &&& (2147483647 : Int32)) % (22 : Int32))))] [])) _
                refine XS.iconst X0.here hx rfl (hb hby own_d_prog_13_method_10_code_40) ?_
                show Steps p.tables e below (s₁.setTop (mkF m 41 #[.val (.int (own_tab0 ((p2 &&& (2147483647 : Int32)) % (22 : Int32))))] [(.int (0 : Int32))])) _
                exact retN X0 hx (t := .boolean) Bd.returns (by simp) (hb hby own_d_prog_13_method_10_code_41) hr
              · show PQ (some (.int (own_f_rm14 p2))) h0 n0 _ s₁.heap _
                rw [e0]
                exact ⟨congrArg (fun z => some (Value.int z)) (by unfold own_f_rm14; rw [if_neg hc3_79, if_pos hc9_93, if_neg hc15_95, if_pos hc21_101, if_neg hc27_103, if_pos hc33_105]), N0, rfl⟩
            · obtain ⟨fs, hr, hrun, hended, hW, hsame⟩ := X0.leave (v := some (.int (1 : Int32))) (fun h => by rw [Bd.returns] at h; cases h)
              refine ⟨_, _, pre104 _ ?_, hrun, hended, _, _, rfl, ?_, ⟨_, rfl⟩, hW, hsame.mono (by decide) (by decide)⟩
              · show Steps p.tables e below (s₁.setTop (mkF m 33 #[.val (.int (own_tab0 ((p2 &&& (2147483647 : Int32)) % (22 : Int32))))] [(.int (70 : Int32)), (.int (own_tab0 ((p2 &&& (2147483647 : Int32)) % (22 : Int32))))])) _
                refine XS.icmpNo X0.here hx rfl (hb hby own_d_prog_13_method_10_code_33) rfl (flt hc33_105).2.2.1 ?_
                show Steps p.tables e below (s₁.setTop (mkF m 36 #[.val (.int (own_tab0 ((p2 &&& (2147483647 : Int32)) % (22 : Int32))))] [])) _
                refine XS.iconst X0.here hx rfl (hb hby own_d_prog_13_method_10_code_36) ?_
                show Steps p.tables e below (s₁.setTop (mkF m 37 #[.val (.int (own_tab0 ((p2 &&& (2147483647 : Int32)) % (22 : Int32))))] [(.int (1 : Int32))])) _
                refine XS.goto X0.here hx rfl (pc0 := 37) (pc' := 41) rfl (hb hby own_d_prog_13_method_10_code_37) (by decide) (by decide) ?_
                show Steps p.tables e below (s₁.setTop (mkF m 41 #[.val (.int (own_tab0 ((p2 &&& (2147483647 : Int32)) % (22 : Int32))))] [(.int (1 : Int32))])) _
                exact retN X0 hx (t := .boolean) Bd.returns (by simp) (hb hby own_d_prog_13_method_10_code_41) hr
              · show PQ (some (.int (own_f_rm14 p2))) h0 n0 _ s₁.heap _
                rw [e0]
                exact ⟨congrArg (fun z => some (Value.int z)) (by unfold own_f_rm14; rw [if_neg hc3_79, if_pos hc9_93, if_neg hc15_95, if_pos hc21_101, if_neg hc27_103, if_neg hc33_105]), N0, rfl⟩
        · obtain ⟨fs, hr, hrun, hended, hW, hsame⟩ := X0.leave (v := some (.int (1 : Int32))) (fun h => by rw [Bd.returns] at h; cases h)
          refine ⟨_, _, pre100 _ ?_, hrun, hended, _, _, rfl, ?_, ⟨_, rfl⟩, hW, hsame.mono (by decide) (by decide)⟩
          · show Steps p.tables e below (s₁.setTop (mkF m 21 #[.val (.int (own_tab0 ((p2 &&& (2147483647 : Int32)) % (22 : Int32))))] [(.int (102 : Int32)), (.int (own_tab0 ((p2 &&& (2147483647 : Int32)) % (22 : Int32))))])) _
            refine XS.icmpYes X0.here hx rfl (pc0 := 21) (pc' := 36) rfl (hb hby own_d_prog_13_method_10_code_21) rfl (flt hc21_101).2.2.2 (by decide) (by decide) ?_
            show Steps p.tables e below (s₁.setTop (mkF m 36 #[.val (.int (own_tab0 ((p2 &&& (2147483647 : Int32)) % (22 : Int32))))] [])) _
            refine XS.iconst X0.here hx rfl (hb hby own_d_prog_13_method_10_code_36) ?_
            show Steps p.tables e below (s₁.setTop (mkF m 37 #[.val (.int (own_tab0 ((p2 &&& (2147483647 : Int32)) % (22 : Int32))))] [(.int (1 : Int32))])) _
            refine XS.goto X0.here hx rfl (pc0 := 37) (pc' := 41) rfl (hb hby own_d_prog_13_method_10_code_37) (by decide) (by decide) ?_
            show Steps p.tables e below (s₁.setTop (mkF m 41 #[.val (.int (own_tab0 ((p2 &&& (2147483647 : Int32)) % (22 : Int32))))] [(.int (1 : Int32))])) _
            exact retN X0 hx (t := .boolean) Bd.returns (by simp) (hb hby own_d_prog_13_method_10_code_41) hr
          · show PQ (some (.int (own_f_rm14 p2))) h0 n0 _ s₁.heap _
            rw [e0]
            exact ⟨congrArg (fun z => some (Value.int z)) (by unfold own_f_rm14; rw [if_neg hc3_79, if_pos hc9_93, if_neg hc15_95, if_neg hc21_101]), N0, rfl⟩
    · obtain ⟨fs, hr, hrun, hended, hW, hsame⟩ := X0.leave (v := some (.int (1 : Int32))) (fun h => by rw [Bd.returns] at h; cases h)
      refine ⟨_, _, pre92 _ ?_, hrun, hended, _, _, rfl, ?_, ⟨_, rfl⟩, hW, hsame.mono (by decide) (by decide)⟩
      · show Steps p.tables e below (s₁.setTop (mkF m 9 #[.val (.int (own_tab0 ((p2 &&& (2147483647 : Int32)) % (22 : Int32))))] [(.int (57 : Int32)), (.int (own_tab0 ((p2 &&& (2147483647 : Int32)) % (22 : Int32))))])) _
        refine XS.icmpYes X0.here hx rfl (pc0 := 9) (pc' := 36) rfl (hb hby own_d_prog_13_method_10_code_9) rfl (flt hc9_93).2.2.2 (by decide) (by decide) ?_
        show Steps p.tables e below (s₁.setTop (mkF m 36 #[.val (.int (own_tab0 ((p2 &&& (2147483647 : Int32)) % (22 : Int32))))] [])) _
        refine XS.iconst X0.here hx rfl (hb hby own_d_prog_13_method_10_code_36) ?_
        show Steps p.tables e below (s₁.setTop (mkF m 37 #[.val (.int (own_tab0 ((p2 &&& (2147483647 : Int32)) % (22 : Int32))))] [(.int (1 : Int32))])) _
        refine XS.goto X0.here hx rfl (pc0 := 37) (pc' := 41) rfl (hb hby own_d_prog_13_method_10_code_37) (by decide) (by decide) ?_
        show Steps p.tables e below (s₁.setTop (mkF m 41 #[.val (.int (own_tab0 ((p2 &&& (2147483647 : Int32)) % (22 : Int32))))] [(.int (1 : Int32))])) _
        exact retN X0 hx (t := .boolean) Bd.returns (by simp) (hb hby own_d_prog_13_method_10_code_41) hr
      · show PQ (some (.int (own_f_rm14 p2))) h0 n0 _ s₁.heap _
        rw [e0]
        exact ⟨congrArg (fun z => some (Value.int z)) (by unfold own_f_rm14; rw [if_neg hc3_79, if_neg hc9_93]), N0, rfl⟩
theorem own_ef_rm15 (m : MethodId) (p1 : Int32) (p2 : Int32) (p3 : Int32) (A : Nat → Addr) (K : Nat → ClassId) (cs : Int32)  : entryFrame m #[(.int (own_tab1 ((p3 &&& (2147483647 : Int32)) % (6 : Int32))))] 1 = mkF m 0 #[.val (.int (own_tab1 ((p3 &&& (2147483647 : Int32)) % (6 : Int32))))] [] := by first | (simp [entryFrame, mkF, argsToLocals, Value.category, maxLocals]; done) | rfl
def own_f_rm15 (p3 : Int32) : Int32 := if (own_tab1 ((p3 &&& (2147483647 : Int32)) % (6 : Int32))) < (48 : Int32) then (if (own_tab1 ((p3 &&& (2147483647 : Int32)) % (6 : Int32))) < (97 : Int32) then (if (own_tab1 ((p3 &&& (2147483647 : Int32)) % (6 : Int32))) < (65 : Int32) then (0 : Int32)
      else if (70 : Int32) < (own_tab1 ((p3 &&& (2147483647 : Int32)) % (6 : Int32))) then (0 : Int32)
        else (1 : Int32))
    else if (102 : Int32) < (own_tab1 ((p3 &&& (2147483647 : Int32)) % (6 : Int32))) then (if (own_tab1 ((p3 &&& (2147483647 : Int32)) % (6 : Int32))) < (65 : Int32) then (0 : Int32)
        else if (70 : Int32) < (own_tab1 ((p3 &&& (2147483647 : Int32)) % (6 : Int32))) then (0 : Int32)
          else (1 : Int32))
      else (1 : Int32))
  else if (57 : Int32) < (own_tab1 ((p3 &&& (2147483647 : Int32)) % (6 : Int32))) then (if (own_tab1 ((p3 &&& (2147483647 : Int32)) % (6 : Int32))) < (97 : Int32) then (if (own_tab1 ((p3 &&& (2147483647 : Int32)) % (6 : Int32))) < (65 : Int32) then (0 : Int32)
        else if (70 : Int32) < (own_tab1 ((p3 &&& (2147483647 : Int32)) % (6 : Int32))) then (0 : Int32)
          else (1 : Int32))
      else if (102 : Int32) < (own_tab1 ((p3 &&& (2147483647 : Int32)) % (6 : Int32))) then (if (own_tab1 ((p3 &&& (2147483647 : Int32)) % (6 : Int32))) < (65 : Int32) then (0 : Int32)
          else if (70 : Int32) < (own_tab1 ((p3 &&& (2147483647 : Int32)) % (6 : Int32))) then (0 : Int32)
            else (1 : Int32))
        else (1 : Int32))
    else (1 : Int32)
set_option maxRecDepth 65536 in
set_option maxHeartbeats 40000000 in
theorem rm15 (l : Launch) (Z : State) (a0 : Array Value) (hw : ∀ d ∈ tables_1, d.before a0 Z = true) (ws : List Jvm.Cond) (h0 : Heap) (n0 : Nat) (p1 : Int32) (p2 : Int32) (p3 : Int32) (A : Nat → Addr) (K : Nat → ClassId) (cs : Int32)  (EN : own_St Z A K cs) (OL0 : Old Z n0 h0) :
    MetFree l own_m1 (head1 (Jvm.Cond.code own_m1 prog_13_method_10_code 1 (some .boolean) :: ws) ({ frames := 0, cells := 0, slots := 0, locals := 0 } : Room)) (fun a U => a = #[(.int (own_tab1 ((p3 &&& (2147483647 : Int32)) % (6 : Int32))))] ∧ Z.Warmed39 U.vm ∧ U.heap = h0) (fun _ _ _ _ _ => True) (fun _ U o U' => ∃ v L, o = .returned v ∧ (PQ (some (.int (own_f_rm15 p3))) h0 n0) v U'.heap L ∧ FrameEnd U o U' L ({ frames := 0, cells := 0, slots := 0, locals := 0 } : Room).cells ({ frames := 0, cells := 0, slots := 0, locals := 0 } : Room).slots) := by
  refine MetFree.of_bodySF (plainFor_of_name own_pn3) hisR ?_
  intro p e s m args below meth c s₁ Bd hml0 hP hK
  obtain ⟨rfl, hZ, hh⟩ := hP
  have hx := Bd.exec
  have hby := Bd.bytes
  have hml : c.maxLocals = 1 := hml0
  have hown : s.vm.findClass "com/example/makusanyo/makusanyo/PercentEscapes" = some m.cls := findClass_of_methodNamed Bd.named
  have hnm := (name_of_methodNamed Bd.named Bd.method).1
  have X0 : Stand p l e ({ frames := 0, cells := 0, slots := 0, locals := 0 } : Room) s m #[(.int (own_tab1 ((p3 &&& (2147483647 : Int32)) % (6 : Int32))))] below meth c s₁ [] 0 0 := Stand.of_body Bd
  have e0 : s₁.heap = h0 := by rw [← hh, Bd.state]; rfl
  have N0 := Fr.nil n0
  have pre0 : ∀ t, Steps p.tables e below (s₁.setTop (mkF m 0 #[.val (.int (own_tab1 ((p3 &&& (2147483647 : Int32)) % (6 : Int32))))] [])) t → Steps p.tables e below (s₁.setTop (entryFrame m #[(.int (own_tab1 ((p3 &&& (2147483647 : Int32)) % (6 : Int32))))] 1)) t := fun t k => castTop (own_ef_rm15 m p1 p2 p3 A K cs ) k
  have KK0 : Keep h0 h0 [] := Keep.refl _ _
  have pre107 : ∀ t, Steps p.tables e below (s₁.setTop (mkF m 3 #[.val (.int (own_tab1 ((p3 &&& (2147483647 : Int32)) % (6 : Int32))))] [(.int (48 : Int32)), (.int (own_tab1 ((p3 &&& (2147483647 : Int32)) % (6 : Int32))))])) t → Steps p.tables e below (s₁.setTop (entryFrame m #[(.int (own_tab1 ((p3 &&& (2147483647 : Int32)) % (6 : Int32))))] 1)) t := fun t k => pre0 t (by
    show Steps p.tables e below (s₁.setTop (mkF m 0 #[.val (.int (own_tab1 ((p3 &&& (2147483647 : Int32)) % (6 : Int32))))] [])) _
    refine XS.iloadN X0.here hx rfl (hb hby own_d_prog_13_method_10_code_0) rfl ?_
    show Steps p.tables e below (s₁.setTop (mkF m 1 #[.val (.int (own_tab1 ((p3 &&& (2147483647 : Int32)) % (6 : Int32))))] [(.int (own_tab1 ((p3 &&& (2147483647 : Int32)) % (6 : Int32))))])) _
    refine XS.bipush X0.here hx rfl (hb hby own_d_prog_13_method_10_code_1) ?_
    exact k)
  by_cases hc3_108 : (own_tab1 ((p3 &&& (2147483647 : Int32)) % (6 : Int32))) < (48 : Int32)
  · have pre109 : ∀ t, Steps p.tables e below (s₁.setTop (mkF m 15 #[.val (.int (own_tab1 ((p3 &&& (2147483647 : Int32)) % (6 : Int32))))] [(.int (97 : Int32)), (.int (own_tab1 ((p3 &&& (2147483647 : Int32)) % (6 : Int32))))])) t → Steps p.tables e below (s₁.setTop (entryFrame m #[(.int (own_tab1 ((p3 &&& (2147483647 : Int32)) % (6 : Int32))))] 1)) t := fun t k => pre107 t (by
      show Steps p.tables e below (s₁.setTop (mkF m 3 #[.val (.int (own_tab1 ((p3 &&& (2147483647 : Int32)) % (6 : Int32))))] [(.int (48 : Int32)), (.int (own_tab1 ((p3 &&& (2147483647 : Int32)) % (6 : Int32))))])) _
      refine XS.icmpYes X0.here hx rfl (pc0 := 3) (pc' := 12) rfl (hb hby own_d_prog_13_method_10_code_3) rfl (tlt hc3_108).1 (by decide) (by decide) ?_
      show Steps p.tables e below (s₁.setTop (mkF m 12 #[.val (.int (own_tab1 ((p3 &&& (2147483647 : Int32)) % (6 : Int32))))] [])) _
      refine XS.iloadN X0.here hx rfl (hb hby own_d_prog_13_method_10_code_12) rfl ?_
      show Steps p.tables e below (s₁.setTop (mkF m 13 #[.val (.int (own_tab1 ((p3 &&& (2147483647 : Int32)) % (6 : Int32))))] [(.int (own_tab1 ((p3 &&& (2147483647 : Int32)) % (6 : Int32))))])) _
      refine XS.bipush X0.here hx rfl (hb hby own_d_prog_13_method_10_code_13) ?_
      exact k)
    by_cases hc15_110 : (own_tab1 ((p3 &&& (2147483647 : Int32)) % (6 : Int32))) < (97 : Int32)
    · have pre111 : ∀ t, Steps p.tables e below (s₁.setTop (mkF m 27 #[.val (.int (own_tab1 ((p3 &&& (2147483647 : Int32)) % (6 : Int32))))] [(.int (65 : Int32)), (.int (own_tab1 ((p3 &&& (2147483647 : Int32)) % (6 : Int32))))])) t → Steps p.tables e below (s₁.setTop (entryFrame m #[(.int (own_tab1 ((p3 &&& (2147483647 : Int32)) % (6 : Int32))))] 1)) t := fun t k => pre109 t (by
        show Steps p.tables e below (s₁.setTop (mkF m 15 #[.val (.int (own_tab1 ((p3 &&& (2147483647 : Int32)) % (6 : Int32))))] [(.int (97 : Int32)), (.int (own_tab1 ((p3 &&& (2147483647 : Int32)) % (6 : Int32))))])) _
        refine XS.icmpYes X0.here hx rfl (pc0 := 15) (pc' := 24) rfl (hb hby own_d_prog_13_method_10_code_15) rfl (tlt hc15_110).1 (by decide) (by decide) ?_
        show Steps p.tables e below (s₁.setTop (mkF m 24 #[.val (.int (own_tab1 ((p3 &&& (2147483647 : Int32)) % (6 : Int32))))] [])) _
        refine XS.iloadN X0.here hx rfl (hb hby own_d_prog_13_method_10_code_24) rfl ?_
        show Steps p.tables e below (s₁.setTop (mkF m 25 #[.val (.int (own_tab1 ((p3 &&& (2147483647 : Int32)) % (6 : Int32))))] [(.int (own_tab1 ((p3 &&& (2147483647 : Int32)) % (6 : Int32))))])) _
        refine XS.bipush X0.here hx rfl (hb hby own_d_prog_13_method_10_code_25) ?_
        exact k)
      by_cases hc27_112 : (own_tab1 ((p3 &&& (2147483647 : Int32)) % (6 : Int32))) < (65 : Int32)
      · obtain ⟨fs, hr, hrun, hended, hW, hsame⟩ := X0.leave (v := some (.int (0 : Int32))) (fun h => by rw [Bd.returns] at h; cases h)
        refine ⟨_, _, pre111 _ ?_, hrun, hended, _, _, rfl, ?_, ⟨_, rfl⟩, hW, hsame.mono (by decide) (by decide)⟩
        · show Steps p.tables e below (s₁.setTop (mkF m 27 #[.val (.int (own_tab1 ((p3 &&& (2147483647 : Int32)) % (6 : Int32))))] [(.int (65 : Int32)), (.int (own_tab1 ((p3 &&& (2147483647 : Int32)) % (6 : Int32))))])) _
          refine XS.icmpYes X0.here hx rfl (pc0 := 27) (pc' := 40) rfl (hb hby own_d_prog_13_method_10_code_27) rfl (tlt hc27_112).1 (by decide) (by decide) ?_
          show Steps p.tables e below (s₁.setTop (mkF m 40 #[.val (.int (own_tab1 ((p3 &&& (2147483647 : Int32)) % (6 : Int32))))] [])) _
          refine XS.iconst X0.here hx rfl (hb hby own_d_prog_13_method_10_code_40) ?_
          show Steps p.tables e below (s₁.setTop (mkF m 41 #[.val (.int (own_tab1 ((p3 &&& (2147483647 : Int32)) % (6 : Int32))))] [(.int (0 : Int32))])) _
          exact retN X0 hx (t := .boolean) Bd.returns (by simp) (hb hby own_d_prog_13_method_10_code_41) hr
        · show PQ (some (.int (own_f_rm15 p3))) h0 n0 _ s₁.heap _
          rw [e0]
          exact ⟨congrArg (fun z => some (Value.int z)) (by unfold own_f_rm15; rw [if_pos hc3_108, if_pos hc15_110, if_pos hc27_112]), N0, rfl⟩
      · have pre113 : ∀ t, Steps p.tables e below (s₁.setTop (mkF m 33 #[.val (.int (own_tab1 ((p3 &&& (2147483647 : Int32)) % (6 : Int32))))] [(.int (70 : Int32)), (.int (own_tab1 ((p3 &&& (2147483647 : Int32)) % (6 : Int32))))])) t → Steps p.tables e below (s₁.setTop (entryFrame m #[(.int (own_tab1 ((p3 &&& (2147483647 : Int32)) % (6 : Int32))))] 1)) t := fun t k => pre111 t (by
          show Steps p.tables e below (s₁.setTop (mkF m 27 #[.val (.int (own_tab1 ((p3 &&& (2147483647 : Int32)) % (6 : Int32))))] [(.int (65 : Int32)), (.int (own_tab1 ((p3 &&& (2147483647 : Int32)) % (6 : Int32))))])) _
          refine XS.icmpNo X0.here hx rfl (hb hby own_d_prog_13_method_10_code_27) rfl (flt hc27_112).1 ?_
          show Steps p.tables e below (s₁.setTop (mkF m 30 #[.val (.int (own_tab1 ((p3 &&& (2147483647 : Int32)) % (6 : Int32))))] [])) _
          refine XS.iloadN X0.here hx rfl (hb hby own_d_prog_13_method_10_code_30) rfl ?_
          show Steps p.tables e below (s₁.setTop (mkF m 31 #[.val (.int (own_tab1 ((p3 &&& (2147483647 : Int32)) % (6 : Int32))))] [(.int (own_tab1 ((p3 &&& (2147483647 : Int32)) % (6 : Int32))))])) _
          refine XS.bipush X0.here hx rfl (hb hby own_d_prog_13_method_10_code_31) ?_
          exact k)
        by_cases hc33_114 : (70 : Int32) < (own_tab1 ((p3 &&& (2147483647 : Int32)) % (6 : Int32)))
        · obtain ⟨fs, hr, hrun, hended, hW, hsame⟩ := X0.leave (v := some (.int (0 : Int32))) (fun h => by rw [Bd.returns] at h; cases h)
          refine ⟨_, _, pre113 _ ?_, hrun, hended, _, _, rfl, ?_, ⟨_, rfl⟩, hW, hsame.mono (by decide) (by decide)⟩
          · show Steps p.tables e below (s₁.setTop (mkF m 33 #[.val (.int (own_tab1 ((p3 &&& (2147483647 : Int32)) % (6 : Int32))))] [(.int (70 : Int32)), (.int (own_tab1 ((p3 &&& (2147483647 : Int32)) % (6 : Int32))))])) _
            refine XS.icmpYes X0.here hx rfl (pc0 := 33) (pc' := 40) rfl (hb hby own_d_prog_13_method_10_code_33) rfl (tlt hc33_114).2.2.1 (by decide) (by decide) ?_
            show Steps p.tables e below (s₁.setTop (mkF m 40 #[.val (.int (own_tab1 ((p3 &&& (2147483647 : Int32)) % (6 : Int32))))] [])) _
            refine XS.iconst X0.here hx rfl (hb hby own_d_prog_13_method_10_code_40) ?_
            show Steps p.tables e below (s₁.setTop (mkF m 41 #[.val (.int (own_tab1 ((p3 &&& (2147483647 : Int32)) % (6 : Int32))))] [(.int (0 : Int32))])) _
            exact retN X0 hx (t := .boolean) Bd.returns (by simp) (hb hby own_d_prog_13_method_10_code_41) hr
          · show PQ (some (.int (own_f_rm15 p3))) h0 n0 _ s₁.heap _
            rw [e0]
            exact ⟨congrArg (fun z => some (Value.int z)) (by unfold own_f_rm15; rw [if_pos hc3_108, if_pos hc15_110, if_neg hc27_112, if_pos hc33_114]), N0, rfl⟩
        · obtain ⟨fs, hr, hrun, hended, hW, hsame⟩ := X0.leave (v := some (.int (1 : Int32))) (fun h => by rw [Bd.returns] at h; cases h)
          refine ⟨_, _, pre113 _ ?_, hrun, hended, _, _, rfl, ?_, ⟨_, rfl⟩, hW, hsame.mono (by decide) (by decide)⟩
          · show Steps p.tables e below (s₁.setTop (mkF m 33 #[.val (.int (own_tab1 ((p3 &&& (2147483647 : Int32)) % (6 : Int32))))] [(.int (70 : Int32)), (.int (own_tab1 ((p3 &&& (2147483647 : Int32)) % (6 : Int32))))])) _
            refine XS.icmpNo X0.here hx rfl (hb hby own_d_prog_13_method_10_code_33) rfl (flt hc33_114).2.2.1 ?_
            show Steps p.tables e below (s₁.setTop (mkF m 36 #[.val (.int (own_tab1 ((p3 &&& (2147483647 : Int32)) % (6 : Int32))))] [])) _
            refine XS.iconst X0.here hx rfl (hb hby own_d_prog_13_method_10_code_36) ?_
            show Steps p.tables e below (s₁.setTop (mkF m 37 #[.val (.int (own_tab1 ((p3 &&& (2147483647 : Int32)) % (6 : Int32))))] [(.int (1 : Int32))])) _
            refine XS.goto X0.here hx rfl (pc0 := 37) (pc' := 41) rfl (hb hby own_d_prog_13_method_10_code_37) (by decide) (by decide) ?_
            show Steps p.tables e below (s₁.setTop (mkF m 41 #[.val (.int (own_tab1 ((p3 &&& (2147483647 : Int32)) % (6 : Int32))))] [(.int (1 : Int32))])) _
            exact retN X0 hx (t := .boolean) Bd.returns (by simp) (hb hby own_d_prog_13_method_10_code_41) hr
          · show PQ (some (.int (own_f_rm15 p3))) h0 n0 _ s₁.heap _
            rw [e0]
            exact ⟨congrArg (fun z => some (Value.int z)) (by unfold own_f_rm15; rw [if_pos hc3_108, if_pos hc15_110, if_neg hc27_112, if_neg hc33_114]), N0, rfl⟩
    · have pre115 : ∀ t, Steps p.tables e below (s₁.setTop (mkF m 21 #[.val (.int (own_tab1 ((p3 &&& (2147483647 : Int32)) % (6 : Int32))))] [(.int (102 : Int32)), (.int (own_tab1 ((p3 &&& (2147483647 : Int32)) % (6 : Int32))))])) t → Steps p.tables e below (s₁.setTop (entryFrame m #[(.int (own_tab1 ((p3 &&& (2147483647 : Int32)) % (6 : Int32))))] 1)) t := fun t k => pre109 t (by
        show Steps p.tables e below (s₁.setTop (mkF m 15 #[.val (.int (own_tab1 ((p3 &&& (2147483647 : Int32)) % (6 : Int32))))] [(.int (97 : Int32)), (.int (own_tab1 ((p3 &&& (2147483647 : Int32)) % (6 : Int32))))])) _
        refine XS.icmpNo X0.here hx rfl (hb hby own_d_prog_13_method_10_code_15) rfl (flt hc15_110).1 ?_
        show Steps p.tables e below (s₁.setTop (mkF m 18 #[.val (.int (own_tab1 ((p3 &&& (2147483647 : Int32)) % (6 : Int32))))] [])) _
        refine XS.iloadN X0.here hx rfl (hb hby own_d_prog_13_method_10_code_18) rfl ?_
        show Steps p.tables e below (s₁.setTop (mkF m 19 #[.val (.int (own_tab1 ((p3 &&& (2147483647 : Int32)) % (6 : Int32))))] [(.int (own_tab1 ((p3 &&& (2147483647 : Int32)) % (6 : Int32))))])) _
        refine XS.bipush X0.here hx rfl (hb hby own_d_prog_13_method_10_code_19) ?_
        exact k)
      by_cases hc21_116 : (102 : Int32) < (own_tab1 ((p3 &&& (2147483647 : Int32)) % (6 : Int32)))
      · have pre117 : ∀ t, Steps p.tables e below (s₁.setTop (mkF m 27 #[.val (.int (own_tab1 ((p3 &&& (2147483647 : Int32)) % (6 : Int32))))] [(.int (65 : Int32)), (.int (own_tab1 ((p3 &&& (2147483647 : Int32)) % (6 : Int32))))])) t → Steps p.tables e below (s₁.setTop (entryFrame m #[(.int (own_tab1 ((p3 &&& (2147483647 : Int32)) % (6 : Int32))))] 1)) t := fun t k => pre115 t (by
          show Steps p.tables e below (s₁.setTop (mkF m 21 #[.val (.int (own_tab1 ((p3 &&& (2147483647 : Int32)) % (6 : Int32))))] [(.int (102 : Int32)), (.int (own_tab1 ((p3 &&& (2147483647 : Int32)) % (6 : Int32))))])) _
          refine XS.icmpNo X0.here hx rfl (hb hby own_d_prog_13_method_10_code_21) rfl (tlt hc21_116).2.2.2 ?_
          show Steps p.tables e below (s₁.setTop (mkF m 24 #[.val (.int (own_tab1 ((p3 &&& (2147483647 : Int32)) % (6 : Int32))))] [])) _
          refine XS.iloadN X0.here hx rfl (hb hby own_d_prog_13_method_10_code_24) rfl ?_
          show Steps p.tables e below (s₁.setTop (mkF m 25 #[.val (.int (own_tab1 ((p3 &&& (2147483647 : Int32)) % (6 : Int32))))] [(.int (own_tab1 ((p3 &&& (2147483647 : Int32)) % (6 : Int32))))])) _
          refine XS.bipush X0.here hx rfl (hb hby own_d_prog_13_method_10_code_25) ?_
          exact k)
        by_cases hc27_118 : (own_tab1 ((p3 &&& (2147483647 : Int32)) % (6 : Int32))) < (65 : Int32)
        · obtain ⟨fs, hr, hrun, hended, hW, hsame⟩ := X0.leave (v := some (.int (0 : Int32))) (fun h => by rw [Bd.returns] at h; cases h)
          refine ⟨_, _, pre117 _ ?_, hrun, hended, _, _, rfl, ?_, ⟨_, rfl⟩, hW, hsame.mono (by decide) (by decide)⟩
          · show Steps p.tables e below (s₁.setTop (mkF m 27 #[.val (.int (own_tab1 ((p3 &&& (2147483647 : Int32)) % (6 : Int32))))] [(.int (65 : Int32)), (.int (own_tab1 ((p3 &&& (2147483647 : Int32)) % (6 : Int32))))])) _
            refine XS.icmpYes X0.here hx rfl (pc0 := 27) (pc' := 40) rfl (hb hby own_d_prog_13_method_10_code_27) rfl (tlt hc27_118).1 (by decide) (by decide) ?_
            show Steps p.tables e below (s₁.setTop (mkF m 40 #[.val (.int (own_tab1 ((p3 &&& (2147483647 : Int32)) % (6 : Int32))))] [])) _
            refine XS.iconst X0.here hx rfl (hb hby own_d_prog_13_method_10_code_40) ?_
            show Steps p.tables e below (s₁.setTop (mkF m 41 #[.val (.int (own_tab1 ((p3 &&& (2147483647 : Int32)) % (6 : Int32))))] [(.int (0 : Int32))])) _
            exact retN X0 hx (t := .boolean) Bd.returns (by simp) (hb hby own_d_prog_13_method_10_code_41) hr
          · show PQ (some (.int (own_f_rm15 p3))) h0 n0 _ s₁.heap _
            rw [e0]
            exact ⟨congrArg (fun z => some (Value.int z)) (by unfold own_f_rm15; rw [if_pos hc3_108, if_neg hc15_110, if_pos hc21_116, if_pos hc27_118]), N0, rfl⟩
        · have pre119 : ∀ t, Steps p.tables e below (s₁.setTop (mkF m 33 #[.val (.int (own_tab1 ((p3 &&& (2147483647 : Int32)) % (6 : Int32))))] [(.int (70 : Int32)), (.int (own_tab1 ((p3 &&& (2147483647 : Int32)) % (6 : Int32))))])) t → Steps p.tables e below (s₁.setTop (entryFrame m #[(.int (own_tab1 ((p3 &&& (2147483647 : Int32)) % (6 : Int32))))] 1)) t := fun t k => pre117 t (by
            show Steps p.tables e below (s₁.setTop (mkF m 27 #[.val (.int (own_tab1 ((p3 &&& (2147483647 : Int32)) % (6 : Int32))))] [(.int (65 : Int32)), (.int (own_tab1 ((p3 &&& (2147483647 : Int32)) % (6 : Int32))))])) _
            refine XS.icmpNo X0.here hx rfl (hb hby own_d_prog_13_method_10_code_27) rfl (flt hc27_118).1 ?_
            show Steps p.tables e below (s₁.setTop (mkF m 30 #[.val (.int (own_tab1 ((p3 &&& (2147483647 : Int32)) % (6 : Int32))))] [])) _
            refine XS.iloadN X0.here hx rfl (hb hby own_d_prog_13_method_10_code_30) rfl ?_
            show Steps p.tables e below (s₁.setTop (mkF m 31 #[.val (.int (own_tab1 ((p3 &&& (2147483647 : Int32)) % (6 : Int32))))] [(.int (own_tab1 ((p3 &&& (2147483647 : Int32)) % (6 : Int32))))])) _
            refine XS.bipush X0.here hx rfl (hb hby own_d_prog_13_method_10_code_31) ?_
            exact k)
          by_cases hc33_120 : (70 : Int32) < (own_tab1 ((p3 &&& (2147483647 : Int32)) % (6 : Int32)))
          · obtain ⟨fs, hr, hrun, hended, hW, hsame⟩ := X0.leave (v := some (.int (0 : Int32))) (fun h => by rw [Bd.returns] at h; cases h)
            refine ⟨_, _, pre119 _ ?_, hrun, hended, _, _, rfl, ?_, ⟨_, rfl⟩, hW, hsame.mono (by decide) (by decide)⟩
            · show Steps p.tables e below (s₁.setTop (mkF m 33 #[.val (.int (own_tab1 ((p3 &&& (2147483647 : Int32)) % (6 : Int32))))] [(.int (70 : Int32)), (.int (own_tab1 ((p3 &&& (2147483647 : Int32)) % (6 : Int32))))])) _
              refine XS.icmpYes X0.here hx rfl (pc0 := 33) (pc' := 40) rfl (hb hby own_d_prog_13_method_10_code_33) rfl (tlt hc33_120).2.2.1 (by decide) (by decide) ?_
              show Steps p.tables e below (s₁.setTop (mkF m 40 #[.val (.int (own_tab1 ((p3 &&& (2147483647 : Int32)) % (6 : Int32))))] [])) _
              refine XS.iconst X0.here hx rfl (hb hby own_d_prog_13_method_10_code_40) ?_
              show Steps p.tables e below (s₁.setTop (mkF m 41 #[.val (.int (own_tab1 ((p3 &&& (2147483647 : Int32)) % (6 : Int32))))] [(.int (0 : Int32))])) _
              exact retN X0 hx (t := .boolean) Bd.returns (by simp) (hb hby own_d_prog_13_method_10_code_41) hr
            · show PQ (some (.int (own_f_rm15 p3))) h0 n0 _ s₁.heap _
              rw [e0]
              exact ⟨congrArg (fun z => some (Value.int z)) (by unfold own_f_rm15; rw [if_pos hc3_108, if_neg hc15_110, if_pos hc21_116, if_neg hc27_118, if_pos hc33_120]), N0, rfl⟩
          · obtain ⟨fs, hr, hrun, hended, hW, hsame⟩ := X0.leave (v := some (.int (1 : Int32))) (fun h => by rw [Bd.returns] at h; cases h)
            refine ⟨_, _, pre119 _ ?_, hrun, hended, _, _, rfl, ?_, ⟨_, rfl⟩, hW, hsame.mono (by decide) (by decide)⟩
            · show Steps p.tables e below (s₁.setTop (mkF m 33 #[.val (.int (own_tab1 ((p3 &&& (2147483647 : Int32)) % (6 : Int32))))] [(.int (70 : Int32)), (.int (own_tab1 ((p3 &&& (2147483647 : Int32)) % (6 : Int32))))])) _
              refine XS.icmpNo X0.here hx rfl (hb hby own_d_prog_13_method_10_code_33) rfl (flt hc33_120).2.2.1 ?_
              show Steps p.tables e below (s₁.setTop (mkF m 36 #[.val (.int (own_tab1 ((p3 &&& (2147483647 : Int32)) % (6 : Int32))))] [])) _
              refine XS.iconst X0.here hx rfl (hb hby own_d_prog_13_method_10_code_36) ?_
              show Steps p.tables e below (s₁.setTop (mkF m 37 #[.val (.int (own_tab1 ((p3 &&& (2147483647 : Int32)) % (6 : Int32))))] [(.int (1 : Int32))])) _
              refine XS.goto X0.here hx rfl (pc0 := 37) (pc' := 41) rfl (hb hby own_d_prog_13_method_10_code_37) (by decide) (by decide) ?_
              show Steps p.tables e below (s₁.setTop (mkF m 41 #[.val (.int (own_tab1 ((p3 &&& (2147483647 : Int32)) % (6 : Int32))))] [(.int (1 : Int32))])) _
              exact retN X0 hx (t := .boolean) Bd.returns (by simp) (hb hby own_d_prog_13_method_10_code_41) hr
            · show PQ (some (.int (own_f_rm15 p3))) h0 n0 _ s₁.heap _
              rw [e0]
              exact ⟨congrArg (fun z => some (Value.int z)) (by unfold own_f_rm15; rw [if_pos hc3_108, if_neg hc15_110, if_pos hc21_116, if_neg hc27_118, if_neg hc33_120]), N0, rfl⟩
      · obtain ⟨fs, hr, hrun, hended, hW, hsame⟩ := X0.leave (v := some (.int (1 : Int32))) (fun h => by rw [Bd.returns] at h; cases h)
        refine ⟨_, _, pre115 _ ?_, hrun, hended, _, _, rfl, ?_, ⟨_, rfl⟩, hW, hsame.mono (by decide) (by decide)⟩
        · show Steps p.tables e below (s₁.setTop (mkF m 21 #[.val (.int (own_tab1 ((p3 &&& (2147483647 : Int32)) % (6 : Int32))))] [(.int (102 : Int32)), (.int (own_tab1 ((p3 &&& (2147483647 : Int32)) % (6 : Int32))))])) _
          refine XS.icmpYes X0.here hx rfl (pc0 := 21) (pc' := 36) rfl (hb hby own_d_prog_13_method_10_code_21) rfl (flt hc21_116).2.2.2 (by decide) (by decide) ?_
          show Steps p.tables e below (s₁.setTop (mkF m 36 #[.val (.int (own_tab1 ((p3 &&& (2147483647 : Int32)) % (6 : Int32))))] [])) _
          refine XS.iconst X0.here hx rfl (hb hby own_d_prog_13_method_10_code_36) ?_
          show Steps p.tables e below (s₁.setTop (mkF m 37 #[.val (.int (own_tab1 ((p3 &&& (2147483647 : Int32)) % (6 : Int32))))] [(.int (1 : Int32))])) _
          refine XS.goto X0.here hx rfl (pc0 := 37) (pc' := 41) rfl (hb hby own_d_prog_13_method_10_code_37) (by decide) (by decide) ?_
          show Steps p.tables e below (s₁.setTop (mkF m 41 #[.val (.int (own_tab1 ((p3 &&& (2147483647 : Int32)) % (6 : Int32))))] [(.int (1 : Int32))])) _
          exact retN X0 hx (t := .boolean) Bd.returns (by simp) (hb hby own_d_prog_13_method_10_code_41) hr
        · show PQ (some (.int (own_f_rm15 p3))) h0 n0 _ s₁.heap _
          rw [e0]
          exact ⟨congrArg (fun z => some (Value.int z)) (by unfold own_f_rm15; rw [if_pos hc3_108, if_neg hc15_110, if_neg hc21_116]), N0, rfl⟩
  · have pre121 : ∀ t, Steps p.tables e below (s₁.setTop (mkF m 9 #[.val (.int (own_tab1 ((p3 &&& (2147483647 : Int32)) % (6 : Int32))))] [(.int (57 : Int32)), (.int (own_tab1 ((p3 &&& (2147483647 : Int32)) % (6 : Int32))))])) t → Steps p.tables e below (s₁.setTop (entryFrame m #[(.int (own_tab1 ((p3 &&& (2147483647 : Int32)) % (6 : Int32))))] 1)) t := fun t k => pre107 t (by
      show Steps p.tables e below (s₁.setTop (mkF m 3 #[.val (.int (own_tab1 ((p3 &&& (2147483647 : Int32)) % (6 : Int32))))] [(.int (48 : Int32)), (.int (own_tab1 ((p3 &&& (2147483647 : Int32)) % (6 : Int32))))])) _
      refine XS.icmpNo X0.here hx rfl (hb hby own_d_prog_13_method_10_code_3) rfl (flt hc3_108).1 ?_
      show Steps p.tables e below (s₁.setTop (mkF m 6 #[.val (.int (own_tab1 ((p3 &&& (2147483647 : Int32)) % (6 : Int32))))] [])) _
      refine XS.iloadN X0.here hx rfl (hb hby own_d_prog_13_method_10_code_6) rfl ?_
      show Steps p.tables e below (s₁.setTop (mkF m 7 #[.val (.int (own_tab1 ((p3 &&& (2147483647 : Int32)) % (6 : Int32))))] [(.int (own_tab1 ((p3 &&& (2147483647 : Int32)) % (6 : Int32))))])) _
      refine XS.bipush X0.here hx rfl (hb hby own_d_prog_13_method_10_code_7) ?_
      exact k)
    by_cases hc9_122 : (57 : Int32) < (own_tab1 ((p3 &&& (2147483647 : Int32)) % (6 : Int32)))
    · have pre123 : ∀ t, Steps p.tables e below (s₁.setTop (mkF m 15 #[.val (.int (own_tab1 ((p3 &&& (2147483647 : Int32)) % (6 : Int32))))] [(.int (97 : Int32)), (.int (own_tab1 ((p3 &&& (2147483647 : Int32)) % (6 : Int32))))])) t → Steps p.tables e below (s₁.setTop (entryFrame m #[(.int (own_tab1 ((p3 &&& (2147483647 : Int32)) % (6 : Int32))))] 1)) t := fun t k => pre121 t (by
        show Steps p.tables e below (s₁.setTop (mkF m 9 #[.val (.int (own_tab1 ((p3 &&& (2147483647 : Int32)) % (6 : Int32))))] [(.int (57 : Int32)), (.int (own_tab1 ((p3 &&& (2147483647 : Int32)) % (6 : Int32))))])) _
        refine XS.icmpNo X0.here hx rfl (hb hby own_d_prog_13_method_10_code_9) rfl (tlt hc9_122).2.2.2 ?_
        show Steps p.tables e below (s₁.setTop (mkF m 12 #[.val (.int (own_tab1 ((p3 &&& (2147483647 : Int32)) % (6 : Int32))))] [])) _
        refine XS.iloadN X0.here hx rfl (hb hby own_d_prog_13_method_10_code_12) rfl ?_
        show Steps p.tables e below (s₁.setTop (mkF m 13 #[.val (.int (own_tab1 ((p3 &&& (2147483647 : Int32)) % (6 : Int32))))] [(.int (own_tab1 ((p3 &&& (2147483647 : Int32)) % (6 : Int32))))])) _
        refine XS.bipush X0.here hx rfl (hb hby own_d_prog_13_method_10_code_13) ?_
        exact k)
      by_cases hc15_124 : (own_tab1 ((p3 &&& (2147483647 : Int32)) % (6 : Int32))) < (97 : Int32)
      · have pre125 : ∀ t, Steps p.tables e below (s₁.setTop (mkF m 27 #[.val (.int (own_tab1 ((p3 &&& (2147483647 : Int32)) % (6 : Int32))))] [(.int (65 : Int32)), (.int (own_tab1 ((p3 &&& (2147483647 : Int32)) % (6 : Int32))))])) t → Steps p.tables e below (s₁.setTop (entryFrame m #[(.int (own_tab1 ((p3 &&& (2147483647 : Int32)) % (6 : Int32))))] 1)) t := fun t k => pre123 t (by
          show Steps p.tables e below (s₁.setTop (mkF m 15 #[.val (.int (own_tab1 ((p3 &&& (2147483647 : Int32)) % (6 : Int32))))] [(.int (97 : Int32)), (.int (own_tab1 ((p3 &&& (2147483647 : Int32)) % (6 : Int32))))])) _
          refine XS.icmpYes X0.here hx rfl (pc0 := 15) (pc' := 24) rfl (hb hby own_d_prog_13_method_10_code_15) rfl (tlt hc15_124).1 (by decide) (by decide) ?_
          show Steps p.tables e below (s₁.setTop (mkF m 24 #[.val (.int (own_tab1 ((p3 &&& (2147483647 : Int32)) % (6 : Int32))))] [])) _
          refine XS.iloadN X0.here hx rfl (hb hby own_d_prog_13_method_10_code_24) rfl ?_
          show Steps p.tables e below (s₁.setTop (mkF m 25 #[.val (.int (own_tab1 ((p3 &&& (2147483647 : Int32)) % (6 : Int32))))] [(.int (own_tab1 ((p3 &&& (2147483647 : Int32)) % (6 : Int32))))])) _
          refine XS.bipush X0.here hx rfl (hb hby own_d_prog_13_method_10_code_25) ?_
          exact k)
        by_cases hc27_126 : (own_tab1 ((p3 &&& (2147483647 : Int32)) % (6 : Int32))) < (65 : Int32)
        · obtain ⟨fs, hr, hrun, hended, hW, hsame⟩ := X0.leave (v := some (.int (0 : Int32))) (fun h => by rw [Bd.returns] at h; cases h)
          refine ⟨_, _, pre125 _ ?_, hrun, hended, _, _, rfl, ?_, ⟨_, rfl⟩, hW, hsame.mono (by decide) (by decide)⟩
          · show Steps p.tables e below (s₁.setTop (mkF m 27 #[.val (.int (own_tab1 ((p3 &&& (2147483647 : Int32)) % (6 : Int32))))] [(.int (65 : Int32)), (.int (own_tab1 ((p3 &&& (2147483647 : Int32)) % (6 : Int32))))])) _
            refine XS.icmpYes X0.here hx rfl (pc0 := 27) (pc' := 40) rfl (hb hby own_d_prog_13_method_10_code_27) rfl (tlt hc27_126).1 (by decide) (by decide) ?_
            show Steps p.tables e below (s₁.setTop (mkF m 40 #[.val (.int (own_tab1 ((p3 &&& (2147483647 : Int32)) % (6 : Int32))))] [])) _
            refine XS.iconst X0.here hx rfl (hb hby own_d_prog_13_method_10_code_40) ?_
            show Steps p.tables e below (s₁.setTop (mkF m 41 #[.val (.int (own_tab1 ((p3 &&& (2147483647 : Int32)) % (6 : Int32))))] [(.int (0 : Int32))])) _
            exact retN X0 hx (t := .boolean) Bd.returns (by simp) (hb hby own_d_prog_13_method_10_code_41) hr
          · show PQ (some (.int (own_f_rm15 p3))) h0 n0 _ s₁.heap _
            rw [e0]
            exact ⟨congrArg (fun z => some (Value.int z)) (by unfold own_f_rm15; rw [if_neg hc3_108, if_pos hc9_122, if_pos hc15_124, if_pos hc27_126]), N0, rfl⟩
        · have pre127 : ∀ t, Steps p.tables e below (s₁.setTop (mkF m 33 #[.val (.int (own_tab1 ((p3 &&& (2147483647 : Int32)) % (6 : Int32))))] [(.int (70 : Int32)), (.int (own_tab1 ((p3 &&& (2147483647 : Int32)) % (6 : Int32))))])) t → Steps p.tables e below (s₁.setTop (entryFrame m #[(.int (own_tab1 ((p3 &&& (2147483647 : Int32)) % (6 : Int32))))] 1)) t := fun t k => pre125 t (by
            show Steps p.tables e below (s₁.setTop (mkF m 27 #[.val (.int (own_tab1 ((p3 &&& (2147483647 : Int32)) % (6 : Int32))))] [(.int (65 : Int32)), (.int (own_tab1 ((p3 &&& (2147483647 : Int32)) % (6 : Int32))))])) _
            refine XS.icmpNo X0.here hx rfl (hb hby own_d_prog_13_method_10_code_27) rfl (flt hc27_126).1 ?_
            show Steps p.tables e below (s₁.setTop (mkF m 30 #[.val (.int (own_tab1 ((p3 &&& (2147483647 : Int32)) % (6 : Int32))))] [])) _
            refine XS.iloadN X0.here hx rfl (hb hby own_d_prog_13_method_10_code_30) rfl ?_
            show Steps p.tables e below (s₁.setTop (mkF m 31 #[.val (.int (own_tab1 ((p3 &&& (2147483647 : Int32)) % (6 : Int32))))] [(.int (own_tab1 ((p3 &&& (2147483647 : Int32)) % (6 : Int32))))])) _
            refine XS.bipush X0.here hx rfl (hb hby own_d_prog_13_method_10_code_31) ?_
            exact k)
          by_cases hc33_128 : (70 : Int32) < (own_tab1 ((p3 &&& (2147483647 : Int32)) % (6 : Int32)))
          · obtain ⟨fs, hr, hrun, hended, hW, hsame⟩ := X0.leave (v := some (.int (0 : Int32))) (fun h => by rw [Bd.returns] at h; cases h)
            refine ⟨_, _, pre127 _ ?_, hrun, hended, _, _, rfl, ?_, ⟨_, rfl⟩, hW, hsame.mono (by decide) (by decide)⟩
            · show Steps p.tables e below (s₁.setTop (mkF m 33 #[.val (.int (own_tab1 ((p3 &&& (2147483647 : Int32)) % (6 : Int32))))] [(.int (70 : Int32)), (.int (own_tab1 ((p3 &&& (2147483647 : Int32)) % (6 : Int32))))])) _
              refine XS.icmpYes X0.here hx rfl (pc0 := 33) (pc' := 40) rfl (hb hby own_d_prog_13_method_10_code_33) rfl (tlt hc33_128).2.2.1 (by decide) (by decide) ?_
              show Steps p.tables e below (s₁.setTop (mkF m 40 #[.val (.int (own_tab1 ((p3 &&& (2147483647 : Int32)) % (6 : Int32))))] [])) _
              refine XS.iconst X0.here hx rfl (hb hby own_d_prog_13_method_10_code_40) ?_
              show Steps p.tables e below (s₁.setTop (mkF m 41 #[.val (.int (own_tab1 ((p3 &&& (2147483647 : Int32)) % (6 : Int32))))] [(.int (0 : Int32))])) _
              exact retN X0 hx (t := .boolean) Bd.returns (by simp) (hb hby own_d_prog_13_method_10_code_41) hr
            · show PQ (some (.int (own_f_rm15 p3))) h0 n0 _ s₁.heap _
              rw [e0]
              exact ⟨congrArg (fun z => some (Value.int z)) (by unfold own_f_rm15; rw [if_neg hc3_108, if_pos hc9_122, if_pos hc15_124, if_neg hc27_126, if_pos hc33_128]), N0, rfl⟩
          · obtain ⟨fs, hr, hrun, hended, hW, hsame⟩ := X0.leave (v := some (.int (1 : Int32))) (fun h => by rw [Bd.returns] at h; cases h)
            refine ⟨_, _, pre127 _ ?_, hrun, hended, _, _, rfl, ?_, ⟨_, rfl⟩, hW, hsame.mono (by decide) (by decide)⟩
            · show Steps p.tables e below (s₁.setTop (mkF m 33 #[.val (.int (own_tab1 ((p3 &&& (2147483647 : Int32)) % (6 : Int32))))] [(.int (70 : Int32)), (.int (own_tab1 ((p3 &&& (2147483647 : Int32)) % (6 : Int32))))])) _
              refine XS.icmpNo X0.here hx rfl (hb hby own_d_prog_13_method_10_code_33) rfl (flt hc33_128).2.2.1 ?_
              show Steps p.tables e below (s₁.setTop (mkF m 36 #[.val (.int (own_tab1 ((p3 &&& (2147483647 : Int32)) % (6 : Int32))))] [])) _
              refine XS.iconst X0.here hx rfl (hb hby own_d_prog_13_method_10_code_36) ?_
              show Steps p.tables e below (s₁.setTop (mkF m 37 #[.val (.int (own_tab1 ((p3 &&& (2147483647 : Int32)) % (6 : Int32))))] [(.int (1 : Int32))])) _
              refine XS.goto X0.here hx rfl (pc0 := 37) (pc' := 41) rfl (hb hby own_d_prog_13_method_10_code_37) (by decide) (by decide) ?_
              show Steps p.tables e below (s₁.setTop (mkF m 41 #[.val (.int (own_tab1 ((p3 &&& (2147483647 : Int32)) % (6 : Int32))))] [(.int (1 : Int32))])) _
              exact retN X0 hx (t := .boolean) Bd.returns (by simp) (hb hby own_d_prog_13_method_10_code_41) hr
            · show PQ (some (.int (own_f_rm15 p3))) h0 n0 _ s₁.heap _
              rw [e0]
              exact ⟨congrArg (fun z => some (Value.int z)) (by unfold own_f_rm15; rw [if_neg hc3_108, if_pos hc9_122, if_pos hc15_124, if_neg hc27_126, if_neg hc33_128]), N0, rfl⟩
      · have pre129 : ∀ t, Steps p.tables e below (s₁.setTop (mkF m 21 #[.val (.int (own_tab1 ((p3 &&& (2147483647 : Int32)) % (6 : Int32))))] [(.int (102 : Int32)), (.int (own_tab1 ((p3 &&& (2147483647 : Int32)) % (6 : Int32))))])) t → Steps p.tables e below (s₁.setTop (entryFrame m #[(.int (own_tab1 ((p3 &&& (2147483647 : Int32)) % (6 : Int32))))] 1)) t := fun t k => pre123 t (by
          show Steps p.tables e below (s₁.setTop (mkF m 15 #[.val (.int (own_tab1 ((p3 &&& (2147483647 : Int32)) % (6 : Int32))))] [(.int (97 : Int32)), (.int (own_tab1 ((p3 &&& (2147483647 : Int32)) % (6 : Int32))))])) _
          refine XS.icmpNo X0.here hx rfl (hb hby own_d_prog_13_method_10_code_15) rfl (flt hc15_124).1 ?_
          show Steps p.tables e below (s₁.setTop (mkF m 18 #[.val (.int (own_tab1 ((p3 &&& (2147483647 : Int32)) % (6 : Int32))))] [])) _
          refine XS.iloadN X0.here hx rfl (hb hby own_d_prog_13_method_10_code_18) rfl ?_
          show Steps p.tables e below (s₁.setTop (mkF m 19 #[.val (.int (own_tab1 ((p3 &&& (2147483647 : Int32)) % (6 : Int32))))] [(.int (own_tab1 ((p3 &&& (2147483647 : Int32)) % (6 : Int32))))])) _
          refine XS.bipush X0.here hx rfl (hb hby own_d_prog_13_method_10_code_19) ?_
          exact k)
        by_cases hc21_130 : (102 : Int32) < (own_tab1 ((p3 &&& (2147483647 : Int32)) % (6 : Int32)))
        · have pre131 : ∀ t, Steps p.tables e below (s₁.setTop (mkF m 27 #[.val (.int (own_tab1 ((p3 &&& (2147483647 : Int32)) % (6 : Int32))))] [(.int (65 : Int32)), (.int (own_tab1 ((p3 &&& (2147483647 : Int32)) % (6 : Int32))))])) t → Steps p.tables e below (s₁.setTop (entryFrame m #[(.int (own_tab1 ((p3 &&& (2147483647 : Int32)) % (6 : Int32))))] 1)) t := fun t k => pre129 t (by
            show Steps p.tables e below (s₁.setTop (mkF m 21 #[.val (.int (own_tab1 ((p3 &&& (2147483647 : Int32)) % (6 : Int32))))] [(.int (102 : Int32)), (.int (own_tab1 ((p3 &&& (2147483647 : Int32)) % (6 : Int32))))])) _
            refine XS.icmpNo X0.here hx rfl (hb hby own_d_prog_13_method_10_code_21) rfl (tlt hc21_130).2.2.2 ?_
            show Steps p.tables e below (s₁.setTop (mkF m 24 #[.val (.int (own_tab1 ((p3 &&& (2147483647 : Int32)) % (6 : Int32))))] [])) _
            refine XS.iloadN X0.here hx rfl (hb hby own_d_prog_13_method_10_code_24) rfl ?_
            show Steps p.tables e below (s₁.setTop (mkF m 25 #[.val (.int (own_tab1 ((p3 &&& (2147483647 : Int32)) % (6 : Int32))))] [(.int (own_tab1 ((p3 &&& (2147483647 : Int32)) % (6 : Int32))))])) _
            refine XS.bipush X0.here hx rfl (hb hby own_d_prog_13_method_10_code_25) ?_
            exact k)
          by_cases hc27_132 : (own_tab1 ((p3 &&& (2147483647 : Int32)) % (6 : Int32))) < (65 : Int32)
          · obtain ⟨fs, hr, hrun, hended, hW, hsame⟩ := X0.leave (v := some (.int (0 : Int32))) (fun h => by rw [Bd.returns] at h; cases h)
            refine ⟨_, _, pre131 _ ?_, hrun, hended, _, _, rfl, ?_, ⟨_, rfl⟩, hW, hsame.mono (by decide) (by decide)⟩
            · show Steps p.tables e below (s₁.setTop (mkF m 27 #[.val (.int (own_tab1 ((p3 &&& (2147483647 : Int32)) % (6 : Int32))))] [(.int (65 : Int32)), (.int (own_tab1 ((p3 &&& (2147483647 : Int32)) % (6 : Int32))))])) _
              refine XS.icmpYes X0.here hx rfl (pc0 := 27) (pc' := 40) rfl (hb hby own_d_prog_13_method_10_code_27) rfl (tlt hc27_132).1 (by decide) (by decide) ?_
              show Steps p.tables e below (s₁.setTop (mkF m 40 #[.val (.int (own_tab1 ((p3 &&& (2147483647 : Int32)) % (6 : Int32))))] [])) _
              refine XS.iconst X0.here hx rfl (hb hby own_d_prog_13_method_10_code_40) ?_
              show Steps p.tables e below (s₁.setTop (mkF m 41 #[.val (.int (own_tab1 ((p3 &&& (2147483647 : Int32)) % (6 : Int32))))] [(.int (0 : Int32))])) _
              exact retN X0 hx (t := .boolean) Bd.returns (by simp) (hb hby own_d_prog_13_method_10_code_41) hr
            · show PQ (some (.int (own_f_rm15 p3))) h0 n0 _ s₁.heap _
              rw [e0]
              exact ⟨congrArg (fun z => some (Value.int z)) (by unfold own_f_rm15; rw [if_neg hc3_108, if_pos hc9_122, if_neg hc15_124, if_pos hc21_130, if_pos hc27_132]), N0, rfl⟩
          · have pre133 : ∀ t, Steps p.tables e below (s₁.setTop (mkF m 33 #[.val (.int (own_tab1 ((p3 &&& (2147483647 : Int32)) % (6 : Int32))))] [(.int (70 : Int32)), (.int (own_tab1 ((p3 &&& (2147483647 : Int32)) % (6 : Int32))))])) t → Steps p.tables e below (s₁.setTop (entryFrame m #[(.int (own_tab1 ((p3 &&& (2147483647 : Int32)) % (6 : Int32))))] 1)) t := fun t k => pre131 t (by
              show Steps p.tables e below (s₁.setTop (mkF m 27 #[.val (.int (own_tab1 ((p3 &&& (2147483647 : Int32)) % (6 : Int32))))] [(.int (65 : Int32)), (.int (own_tab1 ((p3 &&& (2147483647 : Int32)) % (6 : Int32))))])) _
              refine XS.icmpNo X0.here hx rfl (hb hby own_d_prog_13_method_10_code_27) rfl (flt hc27_132).1 ?_
              show Steps p.tables e below (s₁.setTop (mkF m 30 #[.val (.int (own_tab1 ((p3 &&& (2147483647 : Int32)) % (6 : Int32))))] [])) _
              refine XS.iloadN X0.here hx rfl (hb hby own_d_prog_13_method_10_code_30) rfl ?_
              show Steps p.tables e below (s₁.setTop (mkF m 31 #[.val (.int (own_tab1 ((p3 &&& (2147483647 : Int32)) % (6 : Int32))))] [(.int (own_tab1 ((p3 &&& (2147483647 : Int32)) % (6 : Int32))))])) _
              refine XS.bipush X0.here hx rfl (hb hby own_d_prog_13_method_10_code_31) ?_
              exact k)
            by_cases hc33_134 : (70 : Int32) < (own_tab1 ((p3 &&& (2147483647 : Int32)) % (6 : Int32)))
            · obtain ⟨fs, hr, hrun, hended, hW, hsame⟩ := X0.leave (v := some (.int (0 : Int32))) (fun h => by rw [Bd.returns] at h; cases h)
              refine ⟨_, _, pre133 _ ?_, hrun, hended, _, _, rfl, ?_, ⟨_, rfl⟩, hW, hsame.mono (by decide) (by decide)⟩
              · show Steps p.tables e below (s₁.setTop (mkF m 33 #[.val (.int (own_tab1 ((p3 &&& (2147483647 : Int32)) % (6 : Int32))))] [(.int (70 : Int32)), (.int (own_tab1 ((p3 &&& (2147483647 : Int32)) % (6 : Int32))))])) _
                refine XS.icmpYes X0.here hx rfl (pc0 := 33) (pc' := 40) rfl (hb hby own_d_prog_13_method_10_code_33) rfl (tlt hc33_134).2.2.1 (by decide) (by decide) ?_
                show Steps p.tables e below (s₁.setTop (mkF m 40 #[.val (.int (own_tab1 ((p3 &&& (2147483647 : Int32)) % (6 : Int32))))] [])) _
                refine XS.iconst X0.here hx rfl (hb hby own_d_prog_13_method_10_code_40) ?_
                show Steps p.tables e below (s₁.setTop (mkF m 41 #[.val (.int (own_tab1 ((p3 &&& (2147483647 : Int32)) % (6 : Int32))))] [(.int (0 : Int32))])) _
                exact retN X0 hx (t := .boolean) Bd.returns (by simp) (hb hby own_d_prog_13_method_10_code_41) hr
              · show PQ (some (.int (own_f_rm15 p3))) h0 n0 _ s₁.heap _
                rw [e0]
                exact ⟨congrArg (fun z => some (Value.int z)) (by unfold own_f_rm15; rw [if_neg hc3_108, if_pos hc9_122, if_neg hc15_124, if_pos hc21_130, if_neg hc27_132, if_pos hc33_134]), N0, rfl⟩
            · obtain ⟨fs, hr, hrun, hended, hW, hsame⟩ := X0.leave (v := some (.int (1 : Int32))) (fun h => by rw [Bd.returns] at h; cases h)
              refine ⟨_, _, pre133 _ ?_, hrun, hended, _, _, rfl, ?_, ⟨_, rfl⟩, hW, hsame.mono (by decide) (by decide)⟩
              · show Steps p.tables e below (s₁.setTop (mkF m 33 #[.val (.int (own_tab1 ((p3 &&& (2147483647 : Int32)) % (6 : Int32))))] [(.int (70 : Int32)), (.int (own_tab1 ((p3 &&& (2147483647 : Int32)) % (6 : Int32))))])) _
                refine XS.icmpNo X0.here hx rfl (hb hby own_d_prog_13_method_10_code_33) rfl (flt hc33_134).2.2.1 ?_
                show Steps p.tables e below (s₁.setTop (mkF m 36 #[.val (.int (own_tab1 ((p3 &&& (2147483647 : Int32)) % (6 : Int32))))] [])) _
                refine XS.iconst X0.here hx rfl (hb hby own_d_prog_13_method_10_code_36) ?_
                show Steps p.tables e below (s₁.setTop (mkF m 37 #[.val (.int (own_tab1 ((p3 &&& (2147483647 : Int32)) % (6 : Int32))))] [(.int (1 : Int32))])) _
                refine XS.goto X0.here hx rfl (pc0 := 37) (pc' := 41) rfl (hb hby own_d_prog_13_method_10_code_37) (by decide) (by decide) ?_
                show Steps p.tables e below (s₁.setTop (mkF m 41 #[.val (.int (own_tab1 ((p3 &&& (2147483647 : Int32)) % (6 : Int32))))] [(.int (1 : Int32))])) _
                exact retN X0 hx (t := .boolean) Bd.returns (by simp) (hb hby own_d_prog_13_method_10_code_41) hr
              · show PQ (some (.int (own_f_rm15 p3))) h0 n0 _ s₁.heap _
                rw [e0]
                exact ⟨congrArg (fun z => some (Value.int z)) (by unfold own_f_rm15; rw [if_neg hc3_108, if_pos hc9_122, if_neg hc15_124, if_pos hc21_130, if_neg hc27_132, if_neg hc33_134]), N0, rfl⟩
        · obtain ⟨fs, hr, hrun, hended, hW, hsame⟩ := X0.leave (v := some (.int (1 : Int32))) (fun h => by rw [Bd.returns] at h; cases h)
          refine ⟨_, _, pre129 _ ?_, hrun, hended, _, _, rfl, ?_, ⟨_, rfl⟩, hW, hsame.mono (by decide) (by decide)⟩
          · show Steps p.tables e below (s₁.setTop (mkF m 21 #[.val (.int (own_tab1 ((p3 &&& (2147483647 : Int32)) % (6 : Int32))))] [(.int (102 : Int32)), (.int (own_tab1 ((p3 &&& (2147483647 : Int32)) % (6 : Int32))))])) _
            refine XS.icmpYes X0.here hx rfl (pc0 := 21) (pc' := 36) rfl (hb hby own_d_prog_13_method_10_code_21) rfl (flt hc21_130).2.2.2 (by decide) (by decide) ?_
            show Steps p.tables e below (s₁.setTop (mkF m 36 #[.val (.int (own_tab1 ((p3 &&& (2147483647 : Int32)) % (6 : Int32))))] [])) _
            refine XS.iconst X0.here hx rfl (hb hby own_d_prog_13_method_10_code_36) ?_
            show Steps p.tables e below (s₁.setTop (mkF m 37 #[.val (.int (own_tab1 ((p3 &&& (2147483647 : Int32)) % (6 : Int32))))] [(.int (1 : Int32))])) _
            refine XS.goto X0.here hx rfl (pc0 := 37) (pc' := 41) rfl (hb hby own_d_prog_13_method_10_code_37) (by decide) (by decide) ?_
            show Steps p.tables e below (s₁.setTop (mkF m 41 #[.val (.int (own_tab1 ((p3 &&& (2147483647 : Int32)) % (6 : Int32))))] [(.int (1 : Int32))])) _
            exact retN X0 hx (t := .boolean) Bd.returns (by simp) (hb hby own_d_prog_13_method_10_code_41) hr
          · show PQ (some (.int (own_f_rm15 p3))) h0 n0 _ s₁.heap _
            rw [e0]
            exact ⟨congrArg (fun z => some (Value.int z)) (by unfold own_f_rm15; rw [if_neg hc3_108, if_pos hc9_122, if_neg hc15_124, if_neg hc21_130]), N0, rfl⟩
    · obtain ⟨fs, hr, hrun, hended, hW, hsame⟩ := X0.leave (v := some (.int (1 : Int32))) (fun h => by rw [Bd.returns] at h; cases h)
      refine ⟨_, _, pre121 _ ?_, hrun, hended, _, _, rfl, ?_, ⟨_, rfl⟩, hW, hsame.mono (by decide) (by decide)⟩
      · show Steps p.tables e below (s₁.setTop (mkF m 9 #[.val (.int (own_tab1 ((p3 &&& (2147483647 : Int32)) % (6 : Int32))))] [(.int (57 : Int32)), (.int (own_tab1 ((p3 &&& (2147483647 : Int32)) % (6 : Int32))))])) _
        refine XS.icmpYes X0.here hx rfl (pc0 := 9) (pc' := 36) rfl (hb hby own_d_prog_13_method_10_code_9) rfl (flt hc9_122).2.2.2 (by decide) (by decide) ?_
        show Steps p.tables e below (s₁.setTop (mkF m 36 #[.val (.int (own_tab1 ((p3 &&& (2147483647 : Int32)) % (6 : Int32))))] [])) _
        refine XS.iconst X0.here hx rfl (hb hby own_d_prog_13_method_10_code_36) ?_
        show Steps p.tables e below (s₁.setTop (mkF m 37 #[.val (.int (own_tab1 ((p3 &&& (2147483647 : Int32)) % (6 : Int32))))] [(.int (1 : Int32))])) _
        refine XS.goto X0.here hx rfl (pc0 := 37) (pc' := 41) rfl (hb hby own_d_prog_13_method_10_code_37) (by decide) (by decide) ?_
        show Steps p.tables e below (s₁.setTop (mkF m 41 #[.val (.int (own_tab1 ((p3 &&& (2147483647 : Int32)) % (6 : Int32))))] [(.int (1 : Int32))])) _
        exact retN X0 hx (t := .boolean) Bd.returns (by simp) (hb hby own_d_prog_13_method_10_code_41) hr
      · show PQ (some (.int (own_f_rm15 p3))) h0 n0 _ s₁.heap _
        rw [e0]
        exact ⟨congrArg (fun z => some (Value.int z)) (by unfold own_f_rm15; rw [if_neg hc3_108, if_neg hc9_122]), N0, rfl⟩
theorem own_l22 (p : Int32) : ¬ ((own_f_rm14 p) = (0 : Int32)) := by
  obtain ⟨n, hn, hk⟩ := own_k22 p
  unfold own_f_rm14
  rw [hk]
  match n, hn with
  | 0, _ => decide
  | 1, _ => decide
  | 2, _ => decide
  | 3, _ => decide
  | 4, _ => decide
  | 5, _ => decide
  | 6, _ => decide
  | 7, _ => decide
  | 8, _ => decide
  | 9, _ => decide
  | 10, _ => decide
  | 11, _ => decide
  | 12, _ => decide
  | 13, _ => decide
  | 14, _ => decide
  | 15, _ => decide
  | 16, _ => decide
  | 17, _ => decide
  | 18, _ => decide
  | 19, _ => decide
  | 20, _ => decide
  | 21, _ => decide
  | k + 22, h => exact absurd h (by omega)
theorem own_l6 (p : Int32) : (own_f_rm15 p) = (0 : Int32) := by
  obtain ⟨n, hn, hk⟩ := own_k6 p
  unfold own_f_rm15
  rw [hk]
  match n, hn with
  | 0, _ => decide
  | 1, _ => decide
  | 2, _ => decide
  | 3, _ => decide
  | 4, _ => decide
  | 5, _ => decide
  | k + 6, h => exact absurd h (by omega)
theorem own_or32 (n : Nat) : (97 ≤ n ||| 32 ∧ n ||| 32 ≤ 102) ↔ ((65 ≤ n ∧ n ≤ 70) ∨ (97 ≤ n ∧ n ≤ 102)) := by
  by_cases h : n < 128
  · have q : ∀ n : Nat, n < 128 → ((97 ≤ n ||| 32 ∧ n ||| 32 ≤ 102) ↔ ((65 ≤ n ∧ n ≤ 70) ∨ (97 ≤ n ∧ n ≤ 102))) := by decide +kernel
    exact q n h
  · have q : n ≤ n ||| 32 := Nat.left_le_or
    omega
theorem own_orv (c : Int32) (h : 0 ≤ c.toInt) : (c ||| (32 : Int32)).toInt = ((c.toInt.toNat ||| 32 : Nat) : Int) := by
  have e1 : c.toBitVec.toNat = c.toInt.toNat := by
    have := c.toBitVec.toInt_eq_toNat_cond
    have e : c.toInt = c.toBitVec.toInt := rfl
    have := c.toBitVec.isLt
    split at * <;> omega
  have hs := (c_orS c 32).1 h (by decide)
  have e2 : (c ||| (32 : Int32)).toBitVec.toNat = c.toBitVec.toNat ||| 32 := by
    rw [Int32.toBitVec_or, BitVec.toNat_or]; rfl
  have e3 : (c ||| (32 : Int32)).toInt = (c ||| (32 : Int32)).toBitVec.toInt := rfl
  have e4 := (c ||| (32 : Int32)).toBitVec.toInt_eq_toNat_cond
  have e5 := (c ||| (32 : Int32)).toBitVec.isLt
  rw [← e1, ← e2]
  split at e4 <;> omega
theorem own_orn (c : Int32) (h : c.toInt < 0) : (c ||| (32 : Int32)).toInt < 0 := (c_orS c 32).2.1 h
theorem own_letter (c : Int32) : (¬ ((c ||| (32 : Int32)) < (97 : Int32)) ∧ ¬ ((102 : Int32) < (c ||| (32 : Int32)))) ↔ ((65 ≤ c.toInt ∧ c.toInt ≤ 70) ∨ (97 ≤ c.toInt ∧ c.toInt ≤ 102)) := by
  rw [Int32.lt_iff_toInt_lt, Int32.lt_iff_toInt_lt]
  have k1 : (97 : Int32).toInt = 97 := rfl
  have k2 : (102 : Int32).toInt = 102 := rfl
  rw [k1, k2]
  by_cases h : 0 ≤ c.toInt
  · rw [own_orv c h]
    have q := own_or32 c.toInt.toNat
    omega
  · have q := own_orn c (by omega)
    omega
theorem own_hdv (c : Int32) : own_f_rm12 c = if (48 ≤ c.toInt ∧ c.toInt ≤ 57) ∨ (97 ≤ c.toInt ∧ c.toInt ≤ 102) ∨ (65 ≤ c.toInt ∧ c.toInt ≤ 70) then 1 else 0 := by
  have lt : ∀ a b : Int32, (a < b) = (a.toInt < b.toInt) := fun a b => propext Int32.lt_iff_toInt_lt
  unfold own_f_rm12
  repeat' split
  all_goals first | rfl | (exfalso; simp only [lt, show (48 : Int32).toInt = 48 from rfl, show (57 : Int32).toInt = 57 from rfl, show (97 : Int32).toInt = 97 from rfl, show (102 : Int32).toInt = 102 from rfl, show (65 : Int32).toInt = 65 from rfl, show (70 : Int32).toInt = 70 from rfl] at *; omega)
theorem own_refv (c : Int32) : own_f_rm13 c = if (48 ≤ c.toInt ∧ c.toInt ≤ 57) ∨ (97 ≤ c.toInt ∧ c.toInt ≤ 102) ∨ (65 ≤ c.toInt ∧ c.toInt ≤ 70) then 1 else 0 := by
  have lt : ∀ a b : Int32, (a < b) = (a.toInt < b.toInt) := fun a b => propext Int32.lt_iff_toInt_lt
  have L := own_letter c
  unfold own_f_rm13
  simp only [lt] at L
  repeat' split
  all_goals first | rfl | (exfalso; simp only [lt, show (48 : Int32).toInt = 48 from rfl, show (57 : Int32).toInt = 57 from rfl, show (97 : Int32).toInt = 97 from rfl, show (102 : Int32).toInt = 102 from rfl] at *; omega)
theorem own_eq (c : Int32) : own_f_rm12 c = own_f_rm13 c := by rw [own_hdv, own_refv]
theorem own_ef_rm0 (m : MethodId) (p1 : Int32) (p2 : Int32) (p3 : Int32) (A : Nat → Addr) (K : Nat → ClassId) (cs : Int32) : entryFrame m #[(.int p1), (.int p2), (.int p3)] maxLocals = mkF m 0 #[.val (.int p1), .val (.int p2), .val (.int p3), .unset, .unset, .unset, .unset, .unset] [] := by first | (simp [entryFrame, mkF, argsToLocals, Value.category, maxLocals]; done) | rfl
set_option maxRecDepth 65536 in
set_option maxHeartbeats 40000000 in
theorem rm0 (l : Launch) (Z : State) (a0 : Array Value) (hw : ∀ d ∈ tables_1, d.before a0 Z = true) (ws : List Jvm.Cond) (h0 : Heap) (n0 : Nat) (p1 : Int32) (p2 : Int32) (p3 : Int32) (A : Nat → Addr) (K : Nat → ClassId) (cs : Int32) (EN : own_St Z A K cs) (hcw : Jvm.Lit.compactW.before a0 Z = true) (hc7 : Jvm.Lit.constHeld Z "com/example/makusanyo/makusanyo/PercentEscapesHexDigitPinLaw" 7) (hc16 : Jvm.Lit.constHeld Z "com/example/makusanyo/makusanyo/PercentEscapesHexDigitPinLaw" 16) (eh0 : h0 = Z.heap) (en0 : n0 = Z.heap.size) :
    MetFree l x (head1 (Jvm.Cond.code x code maxLocals ret :: ws) room_1) (fun a U => a = #[(.int p1), (.int p2), (.int p3)] ∧ U.vm = Z.vm ∧ U.heap = Z.heap) (fun _ _ _ _ _ => True) (fun _ U o U' => ∃ v L, o = .returned v ∧ (LQ n0) v U'.heap L ∧ ReturnedEndW U o U' L room_1.cells room_1.slots) := by
  refine MetFree.of_bodySF (plainFor_of_name own_pn4) hisR ?_
  intro p e s m args below meth c s₁ Bd hml0 hP hK
  obtain ⟨rfl, hvm, hh⟩ := hP
  have hx := Bd.exec
  have hby := Bd.bytes
  have hml : c.maxLocals = 8 := hml0
  have hown : s.vm.findClass "com/example/makusanyo/makusanyo/PercentEscapesHexDigitPinLaw" = some m.cls := findClass_of_methodNamed Bd.named
  have hnm := (name_of_methodNamed Bd.named Bd.method).1
  have hZ : Z.Warmed39 s.vm := hvm ▸ State.Warmed39.refl Z
  have hS0 : s.Since s.vm 0 := (State.WarmedH.refl s).since 0
  have I0 : IB Z s.vm [] := hvm ▸ IB.start
  have hkeep : ∀ (b : Addr) (cl : Cell), Z.heap[b]? = some cl → s.heap[b]? = some cl := fun b cl q => by rw [hh]; exact q
  have hk0 : 0 ≤ h0.size := Nat.zero_le _
  have OL0 : Old Z n0 h0 := by rw [eh0, en0]; exact Old.start Z
  have X0 : Stand p l e room_1 (s.setVm s.vm) m #[(.int p1), (.int p2), (.int p3)] below meth c s₁ [] 0 0 := Stand.of_body Bd
  have e0 : s₁.heap = h0 := by rw [eh0, ← hh, Bd.state]; rfl
  have N0 := Fr.nil n0
  have pre0 : ∀ t, Steps p.tables e below (s₁.setTop (mkF m 0 #[.val (.int p1), .val (.int p2), .val (.int p3), .unset, .unset, .unset, .unset, .unset] [])) t → Steps p.tables e below (s₁.setTop (entryFrame m #[(.int p1), (.int p2), (.int p3)] maxLocals)) t := fun t k => castTop (own_ef_rm0 m p1 p2 p3 A K cs) k
  have KK0 : Keep h0 h0 [] := Keep.refl _ _
  obtain ⟨sa1, T1, h1, kk1, sb1, kc1, X1, e1, E1, hS1, hk1, hZ, hown, Es1, Cs1, Vs1, As1, la1, lb1, I1, st1⟩ := ldcSV (s := s) X0 hx hZ hown (hw _ (List.mem_of_getElem? (i := 0) rfl)) (own_strAtoms a0 Z hw) e0 hS0 hk0 (by rw [hh, ← en0]; exact N0) hkeep I0 (by decide) hc7 hcw (vs := [(.int (48 : Int32)), (.int (49 : Int32)), (.int (50 : Int32)), (.int (51 : Int32)), (.int (52 : Int32)), (.int (53 : Int32)), (.int (54 : Int32)), (.int (55 : Int32)), (.int (56 : Int32)), (.int (57 : Int32)), (.int (97 : Int32)), (.int (98 : Int32)), (.int (99 : Int32)), (.int (100 : Int32)), (.int (101 : Int32)), (.int (102 : Int32)), (.int (65 : Int32)), (.int (66 : Int32)), (.int (67 : Int32)), (.int (68 : Int32)), (.int (69 : Int32)), (.int (70 : Int32))]) (z := (22 : Int32)) ⟨by decide, by decide⟩ (by decide) (by decide) (g := (mkF m 0 #[.val (.int p1), .val (.int p2), .val (.int p3), .unset, .unset, .unset, .unset, .unset] [])) rfl (hb hby at_0) (n := 88) (by decide) (by decide) (by decide) (by decide)
  have OL1 : Old Z n0 h1 := OL0.ext E1
  have KK1 : Keep h0 h1 [] := KK0.ext E1
  obtain ⟨cq16, kq16, q16a, q16b, q16c⟩ := isOf hZ e1 Es1
  obtain ⟨_, _, ⟨T16, L16, k16, n16⟩, -, X16, ⟨Lc16, hQ16, l16, y16, z16⟩, st16⟩ := X1.virtualBack hx (y := own_m2) (z := own_m2) hown (mvT hZ (hw _ (List.mem_of_getElem? (i := 9) rfl))) (mvT hZ (hw _ (List.mem_of_getElem? (i := 10) rfl))) (notFace_of_selects (args := #[]) (mvT hZ (hw _ (List.mem_of_getElem? (i := 12) rfl)))) (mvT hZ (hw _ (List.mem_of_getElem? (i := 12) rfl))) (mvT hZ (hw _ (List.mem_of_getElem? (i := 11) rfl))) (by decide) (backOf (W := 0) (rm1 l Z a0 hw [] h1 n0 p1 p2 p3 A K cs sb1 sa1 kc1 EN OL1 Es1 Cs1 Vs1 As1) hZ (hw _ (List.mem_of_getElem? (i := 13) rfl)) (hw _ (List.mem_of_getElem? (i := 1) rfl)) (by decide) (by decide)) q16a q16c (g := (mkF m 9 #[.val (.int p1), .val (.int p2), .val (.int p3), .unset, .unset, .unset, .unset, .unset] [(.int ((p2 &&& (2147483647 : Int32)) % (22 : Int32))), (.ref sa1)])) rfl (by rw [hml]; rfl) (Steps.refl _) (argsL := [(.int ((p2 &&& (2147483647 : Int32)) % (22 : Int32)))]) (rest := []) (lenOf own_pd4 rfl) rfl (by show 2 * 0 + _ ≤ _; exact Nat.le_of_eq rfl) (hb hby at_9) (fun _ _ => ⟨rfl, e1, (by decide : 2 + 0 ≤ _), (by decide : 92 + 0 ≤ _)⟩)
  dsimp only [Pt.U, Pt.locs, Pt.cells, Pt.slots] at X16 l16 y16 z16 st16 hQ16
  subst l16 y16 z16
  obtain ⟨rfl, N16q, e16⟩ := hQ16
  have N16 := Fr.app N0 N16q
  have pre17 : ∀ t, Steps p.tables e below (T16.setTop (mkF m 13 #[.val (.int p1), .val (.int p2), .val (.int p3), .val (.int (own_tab0 ((p2 &&& (2147483647 : Int32)) % (22 : Int32)))), .unset, .unset, .unset, .unset] [])) t → Steps p.tables e below (s₁.setTop (entryFrame m #[(.int p1), (.int p2), (.int p3)] maxLocals)) t := fun t k => pre0 t (by
    show Steps p.tables e below (s₁.setTop (mkF m 0 #[.val (.int p1), .val (.int p2), .val (.int p3), .unset, .unset, .unset, .unset, .unset] [])) _
    refine st1 _ ?_
    show Steps p.tables e below (T1.setTop (mkF m 2 #[.val (.int p1), .val (.int p2), .val (.int p3), .unset, .unset, .unset, .unset, .unset] [(.ref sa1)])) _
    refine XS.iloadN X1.here hx rfl (hb hby at_2) rfl ?_
    show Steps p.tables e below (T1.setTop (mkF m 3 #[.val (.int p1), .val (.int p2), .val (.int p3), .unset, .unset, .unset, .unset, .unset] [(.int p2), (.ref sa1)])) _
    refine X1.ldcInt hx hown (mvT hZ (hw _ (List.mem_of_getElem? (i := 8) rfl))) (g := (mkF m 3 #[.val (.int p1), .val (.int p2), .val (.int p3), .unset, .unset, .unset, .unset, .unset] [(.int p2), (.ref sa1)])) rfl (hb hby at_3) _ ?_
    show Steps p.tables e below (T1.setTop (mkF m 5 #[.val (.int p1), .val (.int p2), .val (.int p3), .unset, .unset, .unset, .unset, .unset] [(.int (2147483647 : Int32)), (.int p2), (.ref sa1)])) _
    refine XS.iand X1.here hx rfl (hb hby at_5) rfl ?_
    show Steps p.tables e below (T1.setTop (mkF m 6 #[.val (.int p1), .val (.int p2), .val (.int p3), .unset, .unset, .unset, .unset, .unset] [(.int (p2 &&& (2147483647 : Int32))), (.ref sa1)])) _
    refine XS.bipush X1.here hx rfl (hb hby at_6) ?_
    show Steps p.tables e below (T1.setTop (mkF m 8 #[.val (.int p1), .val (.int p2), .val (.int p3), .unset, .unset, .unset, .unset, .unset] [(.int (22 : Int32)), (.int (p2 &&& (2147483647 : Int32))), (.ref sa1)])) _
    refine iremM X1 hx rfl (hb hby at_8) rfl (by decide) ?_
    show Steps p.tables e below (T1.setTop (mkF m 9 #[.val (.int p1), .val (.int p2), .val (.int p3), .unset, .unset, .unset, .unset, .unset] [(.int ((p2 &&& (2147483647 : Int32)) % (22 : Int32))), (.ref sa1)])) _
    refine st16.trans ?_
    show Steps p.tables e below (T16.setTop (mkF m 12 #[.val (.int p1), .val (.int p2), .val (.int p3), .unset, .unset, .unset, .unset, .unset] [(.int (nar .char (nar .char (((own_tab0 ((p2 &&& (2147483647 : Int32)) % (22 : Int32))) &&& (255 : Int32)).toUInt32.toUInt16.toUInt32.toInt32))))])) _
    rw [own_ch0 (((p2 &&& (2147483647 : Int32)) % (22 : Int32)))]
    show Steps p.tables e below (T16.setTop (mkF m 12 #[.val (.int p1), .val (.int p2), .val (.int p3), .unset, .unset, .unset, .unset, .unset] [(.int (own_tab0 ((p2 &&& (2147483647 : Int32)) % (22 : Int32))))])) _
    refine XS.istoreN X16.here hx rfl (hb hby at_12) rfl (l' := #[.val (.int p1), .val (.int p2), .val (.int p3), .val (.int (own_tab0 ((p2 &&& (2147483647 : Int32)) % (22 : Int32)))), .unset, .unset, .unset, .unset]) rfl ?_
    exact k)
  obtain ⟨sa18, T18, h18, kk18, sb18, kc18, X18, e18, E18, hS18, hk18, hZ, hown, Es18, Cs18, Vs18, As18, la18, lb18, I18, st18⟩ := ldcSV (s := s) X16 hx hZ hown (hw _ (List.mem_of_getElem? (i := 34) rfl)) (own_strAtoms a0 Z hw) e16 hS1 hk1 (by rw [hh, ← en0]; exact N16) hkeep I1 (by decide) hc16 hcw (vs := [(.int (47 : Int32)), (.int (58 : Int32)), (.int (96 : Int32)), (.int (103 : Int32)), (.int (64 : Int32)), (.int (71 : Int32))]) (z := (6 : Int32)) ⟨by decide, by decide⟩ (by decide) (by decide) (g := (mkF m 13 #[.val (.int p1), .val (.int p2), .val (.int p3), .val (.int (own_tab0 ((p2 &&& (2147483647 : Int32)) % (22 : Int32)))), .unset, .unset, .unset, .unset] [])) rfl (hb hby at_13) (n := 24) (by decide) (by decide) (by decide) (by decide)
  have OL18 : Old Z n0 h18 := OL1.ext E18
  have KK18 : Keep h0 h18 [] := KK1.ext E18
  obtain ⟨cq31, kq31, q31a, q31b, q31c⟩ := isOf hZ e18 Es18
  obtain ⟨_, _, ⟨T31, L31, k31, n31⟩, -, X31, ⟨Lc31, hQ31, l31, y31, z31⟩, st31⟩ := X18.virtualBack hx (y := own_m2) (z := own_m2) hown (mvT hZ (hw _ (List.mem_of_getElem? (i := 9) rfl))) (mvT hZ (hw _ (List.mem_of_getElem? (i := 10) rfl))) (notFace_of_selects (args := #[]) (mvT hZ (hw _ (List.mem_of_getElem? (i := 12) rfl)))) (mvT hZ (hw _ (List.mem_of_getElem? (i := 12) rfl))) (mvT hZ (hw _ (List.mem_of_getElem? (i := 11) rfl))) (by decide) (backOf (W := 0) (rm7 l Z a0 hw [] h18 n0 p1 p2 p3 A K cs sb18 sa18 kc18 EN OL18 Es18 Cs18 Vs18 As18) hZ (hw _ (List.mem_of_getElem? (i := 13) rfl)) (hw _ (List.mem_of_getElem? (i := 1) rfl)) (by decide) (by decide)) q31a q31c (g := (mkF m 22 #[.val (.int p1), .val (.int p2), .val (.int p3), .val (.int (own_tab0 ((p2 &&& (2147483647 : Int32)) % (22 : Int32)))), .unset, .unset, .unset, .unset] [(.int ((p3 &&& (2147483647 : Int32)) % (6 : Int32))), (.ref sa18)])) rfl (by rw [hml]; rfl) (Steps.refl _) (argsL := [(.int ((p3 &&& (2147483647 : Int32)) % (6 : Int32)))]) (rest := []) (lenOf own_pd4 rfl) rfl (by show 2 * 0 + _ ≤ _; exact Nat.le_of_eq rfl) (hb hby at_22) (fun _ _ => ⟨rfl, e18, (by decide : 4 + 0 ≤ _), (by decide : 120 + 0 ≤ _)⟩)
  dsimp only [Pt.U, Pt.locs, Pt.cells, Pt.slots] at X31 l31 y31 z31 st31 hQ31
  subst l31 y31 z31
  obtain ⟨rfl, N31q, e31⟩ := hQ31
  have N31 := Fr.app N16 N31q
  obtain ⟨_, _, ⟨T60, L60, k60, n60⟩, -, X60, ⟨Lc60, hQ60, l60, y60, z60⟩, st60⟩ := Jvm.LawKit.callS X31 hx (y := own_m1) hown (mvT hZ (hw _ (List.mem_of_getElem? (i := 35) rfl))) (mvT hZ (hw _ (List.mem_of_getElem? (i := 36) rfl))) (mvT hZ (hw _ (List.mem_of_getElem? (i := 37) rfl))) (mvT hZ (hw _ (List.mem_of_getElem? (i := 38) rfl))) (by decide) (backOf (W := 0) (rm12 l Z a0 hw [] h18 n0 p1 p2 p3 A K cs EN OL18) hZ (hw _ (List.mem_of_getElem? (i := 38) rfl)) (hw _ (List.mem_of_getElem? (i := 37) rfl)) (by decide) (by decide)) (g := (mkF m 28 #[.val (.int p1), .val (.int p2), .val (.int p3), .val (.int (own_tab0 ((p2 &&& (2147483647 : Int32)) % (22 : Int32)))), .val (.int (own_tab1 ((p3 &&& (2147483647 : Int32)) % (6 : Int32)))), .unset, .unset, .unset] [(.int p1)])) rfl (by rw [hml]; rfl) (argsL := [(.int p1)]) (rest := []) (lenOf own_pd5 rfl) rfl (by show 2 * 0 + _ ≤ _; exact Nat.le_of_eq rfl) (hb hby at_28) (fun _ _ => ⟨rfl, e31, (by decide : 4 + 0 ≤ _), (by decide : 120 + 0 ≤ _)⟩)
  dsimp only [Pt.U, Pt.locs, Pt.cells, Pt.slots] at X60 l60 y60 z60 st60 hQ60
  subst l60 y60 z60
  obtain ⟨rfl, N60q, e60⟩ := hQ60
  have N60 := Fr.app N31 N60q
  obtain ⟨_, _, ⟨T77, L77, k77, n77⟩, -, X77, ⟨Lc77, hQ77, l77, y77, z77⟩, st77⟩ := Jvm.LawKit.callS X60 hx (y := own_m6) hown (mvT hZ (hw _ (List.mem_of_getElem? (i := 39) rfl))) (mvT hZ (hw _ (List.mem_of_getElem? (i := 40) rfl))) (mvT hZ (hw _ (List.mem_of_getElem? (i := 41) rfl))) (mvT hZ (hw _ (List.mem_of_getElem? (i := 42) rfl))) (by decide) (backOf (W := 1) (rm13 l Z a0 hw [] h18 n0 p1 p2 p3 A K cs EN OL18) hZ (hw _ (List.mem_of_getElem? (i := 42) rfl)) (hw _ (List.mem_of_getElem? (i := 41) rfl)) (by decide) (by decide)) (g := (mkF m 32 #[.val (.int p1), .val (.int p2), .val (.int p3), .val (.int (own_tab0 ((p2 &&& (2147483647 : Int32)) % (22 : Int32)))), .val (.int (own_tab1 ((p3 &&& (2147483647 : Int32)) % (6 : Int32)))), .unset, .unset, .unset] [(.int p1), (.int (own_f_rm12 p1))])) rfl (by rw [hml]; rfl) (argsL := [(.int p1)]) (rest := [(.int (own_f_rm12 p1))]) (lenOf own_pd5 rfl) rfl (by show 2 * 0 + _ ≤ _; exact Nat.le_of_eq rfl) (hb hby at_32) (fun _ _ => ⟨rfl, e60, (by decide : 4 + 0 ≤ _), (by decide : 120 + 0 ≤ _)⟩)
  dsimp only [Pt.U, Pt.locs, Pt.cells, Pt.slots] at X77 l77 y77 z77 st77 hQ77
  subst l77 y77 z77
  obtain ⟨rfl, N77q, e77⟩ := hQ77
  have N77 := Fr.app N60 N77q
  obtain ⟨_, _, ⟨T106, L106, k106, n106⟩, -, X106, ⟨Lc106, hQ106, l106, y106, z106⟩, st106⟩ := Jvm.LawKit.callS X77 hx (y := own_m1) hown (mvT hZ (hw _ (List.mem_of_getElem? (i := 35) rfl))) (mvT hZ (hw _ (List.mem_of_getElem? (i := 36) rfl))) (mvT hZ (hw _ (List.mem_of_getElem? (i := 37) rfl))) (mvT hZ (hw _ (List.mem_of_getElem? (i := 38) rfl))) (by decide) (backOf (W := 0) (rm14 l Z a0 hw [] h18 n0 p1 p2 p3 A K cs EN OL18) hZ (hw _ (List.mem_of_getElem? (i := 38) rfl)) (hw _ (List.mem_of_getElem? (i := 37) rfl)) (by decide) (by decide)) (g := (mkF m 46 #[.val (.int p1), .val (.int p2), .val (.int p3), .val (.int (own_tab0 ((p2 &&& (2147483647 : Int32)) % (22 : Int32)))), .val (.int (own_tab1 ((p3 &&& (2147483647 : Int32)) % (6 : Int32)))), .val (.int (1 : Int32)), .unset, .unset] [(.int (own_tab0 ((p2 &&& (2147483647 : Int32)) % (22 : Int32))))])) rfl (by rw [hml]; rfl) (argsL := [(.int (own_tab0 ((p2 &&& (2147483647 : Int32)) % (22 : Int32))))]) (rest := []) (lenOf own_pd5 rfl) rfl (by show 2 * 0 + _ ≤ _; exact Nat.le_of_eq rfl) (hb hby at_46) (fun _ _ => ⟨rfl, e77, (by decide : 4 + 0 ≤ _), (by decide : 120 + 0 ≤ _)⟩)
  dsimp only [Pt.U, Pt.locs, Pt.cells, Pt.slots] at X106 l106 y106 z106 st106 hQ106
  subst l106 y106 z106
  obtain ⟨rfl, N106q, e106⟩ := hQ106
  have N106 := Fr.app N77 N106q
  obtain ⟨_, _, ⟨T135, L135, k135, n135⟩, -, X135, ⟨Lc135, hQ135, l135, y135, z135⟩, st135⟩ := Jvm.LawKit.callS X106 hx (y := own_m1) hown (mvT hZ (hw _ (List.mem_of_getElem? (i := 35) rfl))) (mvT hZ (hw _ (List.mem_of_getElem? (i := 36) rfl))) (mvT hZ (hw _ (List.mem_of_getElem? (i := 37) rfl))) (mvT hZ (hw _ (List.mem_of_getElem? (i := 38) rfl))) (by decide) (backOf (W := 0) (rm15 l Z a0 hw [] h18 n0 p1 p2 p3 A K cs EN OL18) hZ (hw _ (List.mem_of_getElem? (i := 38) rfl)) (hw _ (List.mem_of_getElem? (i := 37) rfl)) (by decide) (by decide)) (g := (mkF m 53 #[.val (.int p1), .val (.int p2), .val (.int p3), .val (.int (own_tab0 ((p2 &&& (2147483647 : Int32)) % (22 : Int32)))), .val (.int (own_tab1 ((p3 &&& (2147483647 : Int32)) % (6 : Int32)))), .val (.int (1 : Int32)), .val (.int (own_f_rm14 p2)), .unset] [(.int (own_tab1 ((p3 &&& (2147483647 : Int32)) % (6 : Int32))))])) rfl (by rw [hml]; rfl) (argsL := [(.int (own_tab1 ((p3 &&& (2147483647 : Int32)) % (6 : Int32))))]) (rest := []) (lenOf own_pd5 rfl) rfl (by show 2 * 0 + _ ≤ _; exact Nat.le_of_eq rfl) (hb hby at_53) (fun _ _ => ⟨rfl, e106, (by decide : 4 + 0 ≤ _), (by decide : 120 + 0 ≤ _)⟩)
  dsimp only [Pt.U, Pt.locs, Pt.cells, Pt.slots] at X135 l135 y135 z135 st135 hQ135
  subst l135 y135 z135
  obtain ⟨rfl, N135q, e135⟩ := hQ135
  have N135 := Fr.app N106 N135q
  obtain ⟨fs, hr, hrun, hended, hEW⟩ := X135.leaveW (s := s) hS18 (by rw [e135]; exact hk18) (v := some (.int (1 : Int32))) (fun h => by rw [Bd.returns] at h; cases h)
  refine ⟨_, _, pre17 _ ?_, hrun, hended, _, _, rfl, ?_, hEW.1, hEW.2.1, hEW.2.2.1, hEW.2.2.2.mono (by decide) (by decide)⟩
  · show Steps p.tables e below (T16.setTop (mkF m 13 #[.val (.int p1), .val (.int p2), .val (.int p3), .val (.int (own_tab0 ((p2 &&& (2147483647 : Int32)) % (22 : Int32)))), .unset, .unset, .unset, .unset] [])) _
    refine st18 _ ?_
    show Steps p.tables e below (T18.setTop (mkF m 15 #[.val (.int p1), .val (.int p2), .val (.int p3), .val (.int (own_tab0 ((p2 &&& (2147483647 : Int32)) % (22 : Int32)))), .unset, .unset, .unset, .unset] [(.ref sa18)])) _
    refine XS.iloadN X18.here hx rfl (hb hby at_15) rfl ?_
    show Steps p.tables e below (T18.setTop (mkF m 16 #[.val (.int p1), .val (.int p2), .val (.int p3), .val (.int (own_tab0 ((p2 &&& (2147483647 : Int32)) % (22 : Int32)))), .unset, .unset, .unset, .unset] [(.int p3), (.ref sa18)])) _
    refine X18.ldcInt hx hown (mvT hZ (hw _ (List.mem_of_getElem? (i := 8) rfl))) (g := (mkF m 16 #[.val (.int p1), .val (.int p2), .val (.int p3), .val (.int (own_tab0 ((p2 &&& (2147483647 : Int32)) % (22 : Int32)))), .unset, .unset, .unset, .unset] [(.int p3), (.ref sa18)])) rfl (hb hby at_16) _ ?_
    show Steps p.tables e below (T18.setTop (mkF m 18 #[.val (.int p1), .val (.int p2), .val (.int p3), .val (.int (own_tab0 ((p2 &&& (2147483647 : Int32)) % (22 : Int32)))), .unset, .unset, .unset, .unset] [(.int (2147483647 : Int32)), (.int p3), (.ref sa18)])) _
    refine XS.iand X18.here hx rfl (hb hby at_18) rfl ?_
    show Steps p.tables e below (T18.setTop (mkF m 19 #[.val (.int p1), .val (.int p2), .val (.int p3), .val (.int (own_tab0 ((p2 &&& (2147483647 : Int32)) % (22 : Int32)))), .unset, .unset, .unset, .unset] [(.int (p3 &&& (2147483647 : Int32))), (.ref sa18)])) _
    refine XS.bipush X18.here hx rfl (hb hby at_19) ?_
    show Steps p.tables e below (T18.setTop (mkF m 21 #[.val (.int p1), .val (.int p2), .val (.int p3), .val (.int (own_tab0 ((p2 &&& (2147483647 : Int32)) % (22 : Int32)))), .unset, .unset, .unset, .unset] [(.int (6 : Int32)), (.int (p3 &&& (2147483647 : Int32))), (.ref sa18)])) _
    refine iremM X18 hx rfl (hb hby at_21) rfl (by decide) ?_
    show Steps p.tables e below (T18.setTop (mkF m 22 #[.val (.int p1), .val (.int p2), .val (.int p3), .val (.int (own_tab0 ((p2 &&& (2147483647 : Int32)) % (22 : Int32)))), .unset, .unset, .unset, .unset] [(.int ((p3 &&& (2147483647 : Int32)) % (6 : Int32))), (.ref sa18)])) _
    refine st31.trans ?_
    show Steps p.tables e below (T31.setTop (mkF m 25 #[.val (.int p1), .val (.int p2), .val (.int p3), .val (.int (own_tab0 ((p2 &&& (2147483647 : Int32)) % (22 : Int32)))), .unset, .unset, .unset, .unset] [(.int (nar .char (nar .char (((own_tab1 ((p3 &&& (2147483647 : Int32)) % (6 : Int32))) &&& (255 : Int32)).toUInt32.toUInt16.toUInt32.toInt32))))])) _
    rw [own_ch1 (((p3 &&& (2147483647 : Int32)) % (6 : Int32)))]
    show Steps p.tables e below (T31.setTop (mkF m 25 #[.val (.int p1), .val (.int p2), .val (.int p3), .val (.int (own_tab0 ((p2 &&& (2147483647 : Int32)) % (22 : Int32)))), .unset, .unset, .unset, .unset] [(.int (own_tab1 ((p3 &&& (2147483647 : Int32)) % (6 : Int32))))])) _
    refine XS.istore X31.here hx rfl (hb hby at_25) rfl (l' := #[.val (.int p1), .val (.int p2), .val (.int p3), .val (.int (own_tab0 ((p2 &&& (2147483647 : Int32)) % (22 : Int32)))), .val (.int (own_tab1 ((p3 &&& (2147483647 : Int32)) % (6 : Int32)))), .unset, .unset, .unset]) rfl ?_
    show Steps p.tables e below (T31.setTop (mkF m 27 #[.val (.int p1), .val (.int p2), .val (.int p3), .val (.int (own_tab0 ((p2 &&& (2147483647 : Int32)) % (22 : Int32)))), .val (.int (own_tab1 ((p3 &&& (2147483647 : Int32)) % (6 : Int32)))), .unset, .unset, .unset] [])) _
    refine XS.iloadN X31.here hx rfl (hb hby at_27) rfl ?_
    show Steps p.tables e below (T31.setTop (mkF m 28 #[.val (.int p1), .val (.int p2), .val (.int p3), .val (.int (own_tab0 ((p2 &&& (2147483647 : Int32)) % (22 : Int32)))), .val (.int (own_tab1 ((p3 &&& (2147483647 : Int32)) % (6 : Int32)))), .unset, .unset, .unset] [(.int p1)])) _
    refine st60 _ ?_
    show Steps p.tables e below (T60.setTop (mkF m 31 #[.val (.int p1), .val (.int p2), .val (.int p3), .val (.int (own_tab0 ((p2 &&& (2147483647 : Int32)) % (22 : Int32)))), .val (.int (own_tab1 ((p3 &&& (2147483647 : Int32)) % (6 : Int32)))), .unset, .unset, .unset] [(.int (own_f_rm12 p1))])) _
    refine XS.iloadN X60.here hx rfl (hb hby at_31) rfl ?_
    show Steps p.tables e below (T60.setTop (mkF m 32 #[.val (.int p1), .val (.int p2), .val (.int p3), .val (.int (own_tab0 ((p2 &&& (2147483647 : Int32)) % (22 : Int32)))), .val (.int (own_tab1 ((p3 &&& (2147483647 : Int32)) % (6 : Int32)))), .unset, .unset, .unset] [(.int p1), (.int (own_f_rm12 p1))])) _
    refine st77 _ ?_
    show Steps p.tables e below (T77.setTop (mkF m 35 #[.val (.int p1), .val (.int p2), .val (.int p3), .val (.int (own_tab0 ((p2 &&& (2147483647 : Int32)) % (22 : Int32)))), .val (.int (own_tab1 ((p3 &&& (2147483647 : Int32)) % (6 : Int32)))), .unset, .unset, .unset] [(.int (own_f_rm13 p1)), (.int (own_f_rm12 p1))])) _
    refine XS.icmpNo X77.here hx rfl (hb hby at_35) rfl (teq (own_eq p1)).2 ?_
    show Steps p.tables e below (T77.setTop (mkF m 38 #[.val (.int p1), .val (.int p2), .val (.int p3), .val (.int (own_tab0 ((p2 &&& (2147483647 : Int32)) % (22 : Int32)))), .val (.int (own_tab1 ((p3 &&& (2147483647 : Int32)) % (6 : Int32)))), .unset, .unset, .unset] [])) _
    refine XS.iconst X77.here hx rfl (hb hby at_38) ?_
    show Steps p.tables e below (T77.setTop (mkF m 39 #[.val (.int p1), .val (.int p2), .val (.int p3), .val (.int (own_tab0 ((p2 &&& (2147483647 : Int32)) % (22 : Int32)))), .val (.int (own_tab1 ((p3 &&& (2147483647 : Int32)) % (6 : Int32)))), .unset, .unset, .unset] [(.int (1 : Int32))])) _
    refine XS.goto X77.here hx rfl (pc0 := 39) (pc' := 43) rfl (hb hby at_39) (by decide) (by decide) ?_
    show Steps p.tables e below (T77.setTop (mkF m 43 #[.val (.int p1), .val (.int p2), .val (.int p3), .val (.int (own_tab0 ((p2 &&& (2147483647 : Int32)) % (22 : Int32)))), .val (.int (own_tab1 ((p3 &&& (2147483647 : Int32)) % (6 : Int32)))), .unset, .unset, .unset] [(.int (1 : Int32))])) _
    refine XS.istore X77.here hx rfl (hb hby at_43) rfl (l' := #[.val (.int p1), .val (.int p2), .val (.int p3), .val (.int (own_tab0 ((p2 &&& (2147483647 : Int32)) % (22 : Int32)))), .val (.int (own_tab1 ((p3 &&& (2147483647 : Int32)) % (6 : Int32)))), .val (.int (1 : Int32)), .unset, .unset]) rfl ?_
    show Steps p.tables e below (T77.setTop (mkF m 45 #[.val (.int p1), .val (.int p2), .val (.int p3), .val (.int (own_tab0 ((p2 &&& (2147483647 : Int32)) % (22 : Int32)))), .val (.int (own_tab1 ((p3 &&& (2147483647 : Int32)) % (6 : Int32)))), .val (.int (1 : Int32)), .unset, .unset] [])) _
    refine XS.iloadN X77.here hx rfl (hb hby at_45) rfl ?_
    show Steps p.tables e below (T77.setTop (mkF m 46 #[.val (.int p1), .val (.int p2), .val (.int p3), .val (.int (own_tab0 ((p2 &&& (2147483647 : Int32)) % (22 : Int32)))), .val (.int (own_tab1 ((p3 &&& (2147483647 : Int32)) % (6 : Int32)))), .val (.int (1 : Int32)), .unset, .unset] [(.int (own_tab0 ((p2 &&& (2147483647 : Int32)) % (22 : Int32))))])) _
    refine st106 _ ?_
    show Steps p.tables e below (T106.setTop (mkF m 49 #[.val (.int p1), .val (.int p2), .val (.int p3), .val (.int (own_tab0 ((p2 &&& (2147483647 : Int32)) % (22 : Int32)))), .val (.int (own_tab1 ((p3 &&& (2147483647 : Int32)) % (6 : Int32)))), .val (.int (1 : Int32)), .unset, .unset] [(.int (own_f_rm14 p2))])) _
    refine XS.istore X106.here hx rfl (hb hby at_49) rfl (l' := #[.val (.int p1), .val (.int p2), .val (.int p3), .val (.int (own_tab0 ((p2 &&& (2147483647 : Int32)) % (22 : Int32)))), .val (.int (own_tab1 ((p3 &&& (2147483647 : Int32)) % (6 : Int32)))), .val (.int (1 : Int32)), .val (.int (own_f_rm14 p2)), .unset]) rfl ?_
    show Steps p.tables e below (T106.setTop (mkF m 51 #[.val (.int p1), .val (.int p2), .val (.int p3), .val (.int (own_tab0 ((p2 &&& (2147483647 : Int32)) % (22 : Int32)))), .val (.int (own_tab1 ((p3 &&& (2147483647 : Int32)) % (6 : Int32)))), .val (.int (1 : Int32)), .val (.int (own_f_rm14 p2)), .unset] [])) _
    refine XS.iload X106.here hx rfl (hb hby at_51) rfl ?_
    show Steps p.tables e below (T106.setTop (mkF m 53 #[.val (.int p1), .val (.int p2), .val (.int p3), .val (.int (own_tab0 ((p2 &&& (2147483647 : Int32)) % (22 : Int32)))), .val (.int (own_tab1 ((p3 &&& (2147483647 : Int32)) % (6 : Int32)))), .val (.int (1 : Int32)), .val (.int (own_f_rm14 p2)), .unset] [(.int (own_tab1 ((p3 &&& (2147483647 : Int32)) % (6 : Int32))))])) _
    refine st135 _ ?_
    show Steps p.tables e below (T135.setTop (mkF m 56 #[.val (.int p1), .val (.int p2), .val (.int p3), .val (.int (own_tab0 ((p2 &&& (2147483647 : Int32)) % (22 : Int32)))), .val (.int (own_tab1 ((p3 &&& (2147483647 : Int32)) % (6 : Int32)))), .val (.int (1 : Int32)), .val (.int (own_f_rm14 p2)), .unset] [(.int (own_f_rm15 p3))])) _
    refine XS.ifNo X135.here hx rfl (hb hby at_56) rfl ((if0 _ _).trans (teq (own_l6 p3)).2) ?_
    show Steps p.tables e below (T135.setTop (mkF m 59 #[.val (.int p1), .val (.int p2), .val (.int p3), .val (.int (own_tab0 ((p2 &&& (2147483647 : Int32)) % (22 : Int32)))), .val (.int (own_tab1 ((p3 &&& (2147483647 : Int32)) % (6 : Int32)))), .val (.int (1 : Int32)), .val (.int (own_f_rm14 p2)), .unset] [])) _
    refine XS.iconst X135.here hx rfl (hb hby at_59) ?_
    show Steps p.tables e below (T135.setTop (mkF m 60 #[.val (.int p1), .val (.int p2), .val (.int p3), .val (.int (own_tab0 ((p2 &&& (2147483647 : Int32)) % (22 : Int32)))), .val (.int (own_tab1 ((p3 &&& (2147483647 : Int32)) % (6 : Int32)))), .val (.int (1 : Int32)), .val (.int (own_f_rm14 p2)), .unset] [(.int (1 : Int32))])) _
    refine XS.goto X135.here hx rfl (pc0 := 60) (pc' := 64) rfl (hb hby at_60) (by decide) (by decide) ?_
    show Steps p.tables e below (T135.setTop (mkF m 64 #[.val (.int p1), .val (.int p2), .val (.int p3), .val (.int (own_tab0 ((p2 &&& (2147483647 : Int32)) % (22 : Int32)))), .val (.int (own_tab1 ((p3 &&& (2147483647 : Int32)) % (6 : Int32)))), .val (.int (1 : Int32)), .val (.int (own_f_rm14 p2)), .unset] [(.int (1 : Int32))])) _
    refine XS.istore X135.here hx rfl (hb hby at_64) rfl (l' := #[.val (.int p1), .val (.int p2), .val (.int p3), .val (.int (own_tab0 ((p2 &&& (2147483647 : Int32)) % (22 : Int32)))), .val (.int (own_tab1 ((p3 &&& (2147483647 : Int32)) % (6 : Int32)))), .val (.int (1 : Int32)), .val (.int (own_f_rm14 p2)), .val (.int (1 : Int32))]) rfl ?_
    show Steps p.tables e below (T135.setTop (mkF m 66 #[.val (.int p1), .val (.int p2), .val (.int p3), .val (.int (own_tab0 ((p2 &&& (2147483647 : Int32)) % (22 : Int32)))), .val (.int (own_tab1 ((p3 &&& (2147483647 : Int32)) % (6 : Int32)))), .val (.int (1 : Int32)), .val (.int (own_f_rm14 p2)), .val (.int (1 : Int32))] [])) _
    refine XS.iload X135.here hx rfl (hb hby at_66) rfl ?_
    show Steps p.tables e below (T135.setTop (mkF m 68 #[.val (.int p1), .val (.int p2), .val (.int p3), .val (.int (own_tab0 ((p2 &&& (2147483647 : Int32)) % (22 : Int32)))), .val (.int (own_tab1 ((p3 &&& (2147483647 : Int32)) % (6 : Int32)))), .val (.int (1 : Int32)), .val (.int (own_f_rm14 p2)), .val (.int (1 : Int32))] [(.int (1 : Int32))])) _
    refine XS.ifNo X135.here hx rfl (hb hby at_68) rfl ((if0 _ _).trans (feq (by decide : ¬ ((1 : Int32) = (0 : Int32)))).1) ?_
    show Steps p.tables e below (T135.setTop (mkF m 71 #[.val (.int p1), .val (.int p2), .val (.int p3), .val (.int (own_tab0 ((p2 &&& (2147483647 : Int32)) % (22 : Int32)))), .val (.int (own_tab1 ((p3 &&& (2147483647 : Int32)) % (6 : Int32)))), .val (.int (1 : Int32)), .val (.int (own_f_rm14 p2)), .val (.int (1 : Int32))] [])) _
    refine XS.iload X135.here hx rfl (hb hby at_71) rfl ?_
    show Steps p.tables e below (T135.setTop (mkF m 73 #[.val (.int p1), .val (.int p2), .val (.int p3), .val (.int (own_tab0 ((p2 &&& (2147483647 : Int32)) % (22 : Int32)))), .val (.int (own_tab1 ((p3 &&& (2147483647 : Int32)) % (6 : Int32)))), .val (.int (1 : Int32)), .val (.int (own_f_rm14 p2)), .val (.int (1 : Int32))] [(.int (own_f_rm14 p2))])) _
    refine XS.ifNo X135.here hx rfl (hb hby at_73) rfl ((if0 _ _).trans (feq (own_l22 p2)).1) ?_
    show Steps p.tables e below (T135.setTop (mkF m 76 #[.val (.int p1), .val (.int p2), .val (.int p3), .val (.int (own_tab0 ((p2 &&& (2147483647 : Int32)) % (22 : Int32)))), .val (.int (own_tab1 ((p3 &&& (2147483647 : Int32)) % (6 : Int32)))), .val (.int (1 : Int32)), .val (.int (own_f_rm14 p2)), .val (.int (1 : Int32))] [])) _
    refine XS.iload X135.here hx rfl (hb hby at_76) rfl ?_
    show Steps p.tables e below (T135.setTop (mkF m 78 #[.val (.int p1), .val (.int p2), .val (.int p3), .val (.int (own_tab0 ((p2 &&& (2147483647 : Int32)) % (22 : Int32)))), .val (.int (own_tab1 ((p3 &&& (2147483647 : Int32)) % (6 : Int32)))), .val (.int (1 : Int32)), .val (.int (own_f_rm14 p2)), .val (.int (1 : Int32))] [(.int (1 : Int32))])) _
    refine XS.ifNo X135.here hx rfl (hb hby at_78) rfl ((if0 _ _).trans (feq (by decide : ¬ ((1 : Int32) = (0 : Int32)))).1) ?_
    show Steps p.tables e below (T135.setTop (mkF m 81 #[.val (.int p1), .val (.int p2), .val (.int p3), .val (.int (own_tab0 ((p2 &&& (2147483647 : Int32)) % (22 : Int32)))), .val (.int (own_tab1 ((p3 &&& (2147483647 : Int32)) % (6 : Int32)))), .val (.int (1 : Int32)), .val (.int (own_f_rm14 p2)), .val (.int (1 : Int32))] [])) _
    refine XS.iconst X135.here hx rfl (hb hby at_81) ?_
    show Steps p.tables e below (T135.setTop (mkF m 82 #[.val (.int p1), .val (.int p2), .val (.int p3), .val (.int (own_tab0 ((p2 &&& (2147483647 : Int32)) % (22 : Int32)))), .val (.int (own_tab1 ((p3 &&& (2147483647 : Int32)) % (6 : Int32)))), .val (.int (1 : Int32)), .val (.int (own_f_rm14 p2)), .val (.int (1 : Int32))] [(.int (1 : Int32))])) _
    refine XS.goto X135.here hx rfl (pc0 := 82) (pc' := 86) rfl (hb hby at_82) (by decide) (by decide) ?_
    show Steps p.tables e below (T135.setTop (mkF m 86 #[.val (.int p1), .val (.int p2), .val (.int p3), .val (.int (own_tab0 ((p2 &&& (2147483647 : Int32)) % (22 : Int32)))), .val (.int (own_tab1 ((p3 &&& (2147483647 : Int32)) % (6 : Int32)))), .val (.int (1 : Int32)), .val (.int (own_f_rm14 p2)), .val (.int (1 : Int32))] [(.int (1 : Int32))])) _
    exact retN X135 hx (t := .boolean) Bd.returns (by simp) (hb hby at_86) hr
  · show LQ n0 _ T135.heap _
    exact ⟨rfl, N135, trivial⟩
set_option maxRecDepth 65536 in
set_option maxHeartbeats 40000000 in
theorem comes_1 {Post : Tables → Env → Array Value → State → Outcome → State → Prop} (hpost : ∀ tb e args s v u, (limb_1_1.after args s (.returned v) u = true ∧ limb_1_2.after args s (.returned v) u = true ∧ True) → ReturnedEndW s (.returned v) u (Jvm.fieldLocs frame_1_writes args s ++ Jvm.arrayLocs frame_1_arrays args s ++ Jvm.staticLocs frame_1_statics s) 8 2112 → Post tb e args s (.returned v) u) :
    ArmFor flags0 classFile x code maxLocals ret World_1 tables_1 room_1 Calls_1 rest_1 Pre_1 Post := by
  intro l hfl _ _ p e ha hc hk s m args below hf hA hF happ hP
  obtain ⟨hcalls, hrest, hpre⟩ := hP
  obtain ⟨-, -, -, hnamed, -, -, -, hat⟩ := (Spec.applies_iff hf).mp happ
  obtain ⟨hg, hn⟩ := and_e (Cond.before_iff.mp (show (Jvm.Cond.and given_1 narrow_1).before args s = true from hpre))
  obtain ⟨gA0, gB0⟩ := and_e hg
  obtain ⟨gA1, gB1⟩ := and_e gB0
  obtain ⟨gA2, gB2⟩ := and_e gB1
  obtain ⟨w0, w1, w2, rfl⟩ : ∃ w0 w1 w2 : Value, args = #[w0, w1, w2] := by
    have hs : args.size = 3 := by simpa [Cond.value, given_1] using gA0
    obtain ⟨L⟩ := args
    match L, hs with
    | [w0, w1, w2], _ => exact ⟨w0, w1, w2, rfl⟩
  have hw := fun d (hd : d ∈ tables_1) => atoms_spec (ws := Jvm.Cond.code x code maxLocals ret :: tables_1) hat d (List.mem_cons_of_mem _ hd)
  have hfit : Fit s := fun {y c} hc i hi => by
    obtain ⟨ha, rfl⟩ := Array.getElem?_eq_some_iff.mp hc
    have q := List.all_eq_true.mp ((Array.all_eq_true_iff_forall_mem.mp hF) _ (Array.getElem_mem ha)) i (List.mem_range.mpr hi)
    simpa [Array.getElem?_eq_getElem hi] using q
  obtain ⟨hsets, hown0⟩ := atoms_of _ (rest_1_c_eq ▸ (show rest_1_c.before _ s = true from hrest))
  have hr0 := Cond.before_iff.mp hown0
  obtain ⟨i0, ei0⟩ := is_v gA1
  obtain rfl : w0 = (.int i0) := Option.some.inj ei0
  obtain ⟨i1, ei1⟩ := is_v gA2
  obtain rfl : w1 = (.int i1) := Option.some.inj ei1
  obtain ⟨i2, ei2⟩ := is_v gB2
  obtain rfl : w2 = (.int i2) := Option.some.inj ei2
  obtain ⟨cs, eCS⟩ := is_v (Cond.before_iff.mp (hsets _ (List.mem_of_getElem? (i := 1) rfl)))
  have hCS : ¬ (cs = (0 : Int32)) := own_csne eCS (Cond.before_iff.mp (hsets _ (List.mem_of_getElem? (i := 2) rfl)))
  have EN : own_St s (fun n => [].getD n 0) (fun n => [].getD n 0) cs := ⟨⟨Sta.start eCS (Or.inl (hsets _ (List.mem_of_getElem? (i := 0) rfl))), hCS, own_orref (Cond.before_iff.mp (hsets _ (List.mem_of_getElem? (i := 8) rfl))) (Or.inl (hsets _ (List.mem_of_getElem? (i := 7) rfl))), trivial⟩, trivial⟩
  have hcw : Jvm.Lit.compactW.before _ s = true := hsets _ (List.mem_of_getElem? (i := 2) rfl)
  obtain ⟨n, o, h1, h2, h3, _, L, rfl, hQ, hq⟩ := rm0 l s _ hw tables_1 s.heap s.heap.size i0 i1 i2 (fun n => [].getD n 0) (fun n => [].getD n 0) cs EN hcw (hcalls.1 _ (List.mem_of_getElem? (i := 0) rfl)) (hcalls.1 _ (List.mem_of_getElem? (i := 1) rfl)) rfl rfl p e ha hc hk s m _ below hf ((Spec.applies_iff_loose hf).mp happ).1 ⟨rfl, rfl, rfl⟩ trivial
  obtain ⟨rfl, N, -⟩ := hQ
  refine ⟨n, _, h1, h2, h3, hpost _ _ _ _ _ _ ⟨Cond.after_iff.mpr rfl, Cond.after_iff.mpr (eq_i res_at (Term.int_eval (1)) rfl), trivial⟩ ⟨hq.1, hq.2.1, hq.2.2.1, (hq.2.2.2.sift fun y hy => Or.inr (N y hy)).mono (by decide) (by decide)⟩⟩
theorem main_1_1 : Claimed_1_1 := comes_1 fun _ _ _ _ _ _ h hF => ⟨h.1, hF⟩
theorem main_1_2 : Claimed_1_2 := comes_1 fun _ _ _ _ _ _ h hF => ⟨h.2.1, hF⟩
end Jvm.Pilot.@@N@@
namespace Jvm.Pilot.@@N@@
open Jvm Jvm.ClassFile Sem Op Lib Jvm.Free Jvm.Stand Jvm.Pilot.@@N@@.Jvm.D
/-! MADE BY PROGRAM (witnessworld.py) out of the Statement's table words and the real class files: 17 classes; the members and pool entries that the words name. The judged class is class 1, her method 2. -/
namespace start1
open Jvm.ClassFile
def u (s : String) : CpInfo := .utf8 (stringToUtf16 s)
/-- a pool by its gaps: so many unusable entries, then the entry; so many at the end -/
def gap : Nat → List CpInfo → List CpInfo
  | 0, r => r
  | n + 1, r => .unusable :: gap n r
def poolList (es : List (Nat × CpInfo)) (last : Nat) : List CpInfo := es.foldr (fun e r => gap e.1 (e.2 :: r)) (gap last [])
def pool (es : List (Nat × CpInfo)) (last : Nat) : Array CpInfo := ⟨poolList es last⟩
def fileOf (pool : Array CpInfo) (this : Nat) (attrs : Array Attribute := #[]) (ms : Array MethodInfo := #[]) (fl : Nat := 33) (sup : Nat := 0) (ifs : Array Nat := #[]) (fds : Array FieldInfo := #[]) : ClassFile where
  minorVersion := 0
  majorVersion := 65
  constantPool := pool
  accessFlags := fl
  thisClass := this
  superClass := sup
  interfaces := ifs
  fields := fds
  methods := ms
  attributes := attrs
def plain (name : String) (sup : Option ClassId) : Class where
  name := name
  kind := .ordinary
  loader := none
  accessFlags := 33
  super := sup
  interfaces := #[]
  cf := none
  fields := #[]
  methods := #[]
  instanceTypes := #[]
  staticTypes := #[]
  resolved := #[]
  callSites := []
  init := .initialized
  statics := none
  mirror := none

def pool0 : Array CpInfo := pool [(5, u "<init>"), (0, u "()V"), (1, .class_ 10), (1, u "java/lang/Object")] 113

def k0m0 : Method := { name := "<init>", desc := "()V", sig := { parameters := [], returnType := none }, accessFlags := 1, code := none }
/-- java/lang/Object -/
def k0 : Class := { plain "java/lang/Object" none with
  accessFlags := 33
  interfaces := #[]
  cf := some (fileOf pool0 8 #[] #[{ accessFlags := 1, nameIndex := 5, descriptorIndex := 6, attributes := #[] }] 33 0 #[] #[])
  fields := #[]
  methods := #[k0m0]
  instanceTypes := #[]
  staticTypes := #[]
  resolved := Array.replicate 124 none
  statics := none }

def pool1 : Array CpInfo := pool [(2, .class_ 4), (1, u "java/lang/Object"), (0, u "<init>"), (0, u "()V"), (0, .string 8), (0, u "0123456789abcdefABCDEF"), (0, .integer 2147483647), (0, .methodref 11 12), (0, .class_ 13), (0, .nameAndType 14 15), (0, u "java/lang/String"), (0, u "charAt"), (0, u "(I)C"), (0, .string 17), (0, u "/:`g@G"), (0, .methodref 19 20), (0, .class_ 21), (0, .nameAndType 22 23), (0, u "com/example/makusanyo/makusanyo/PercentEscapes"), (0, u "hexDigit"), (0, u "(I)Z"), (0, .methodref 25 26), (0, .class_ 27), (0, .nameAndType 28 23), (0, u "com/example/makusanyo/makusanyo/PercentEscapesHexDigitPinLaw"), (0, u "reference"), (3, u "law"), (0, u "(III)Z")] 2

def k1m0 : Method := { name := "<init>", desc := "()V", sig := { parameters := [], returnType := none }, accessFlags := 2, code := none }
def k1c1 : Code := { maxStack := 2, maxLocals := 4, code := method_2_code, exceptionTable := #[], attributes := #[] }
def k1m1 : Method := { name := "reference", desc := "(I)Z", sig := { parameters := [.int], returnType := some .boolean }, accessFlags := 10, code := some k1c1 }
def k1c2 : Code := { maxStack := 3, maxLocals := 8, code := code, exceptionTable := #[], attributes := #[] }
def k1m2 : Method := { name := "law", desc := "(III)Z", sig := { parameters := [.int, .int, .int], returnType := some .boolean }, accessFlags := 9, code := some k1c2 }
/-- com/example/makusanyo/makusanyo/PercentEscapesHexDigitPinLaw -/
def k1 : Class := { plain "com/example/makusanyo/makusanyo/PercentEscapesHexDigitPinLaw" (some 0) with
  accessFlags := 49
  interfaces := #[]
  cf := some (fileOf pool1 25 #[] #[{ accessFlags := 2, nameIndex := 5, descriptorIndex := 6, attributes := #[] }, { accessFlags := 10, nameIndex := 28, descriptorIndex := 23, attributes := #[] }, { accessFlags := 9, nameIndex := 32, descriptorIndex := 33, attributes := #[] }] 49 2 #[] #[])
  fields := #[]
  methods := #[k1m0, k1m1, k1m2]
  instanceTypes := #[]
  staticTypes := #[]
  resolved := Array.replicate 36 none
  statics := none }

def pool2 : Array CpInfo := pool [(1, .class_ 2), (0, u "java/io/Serializable"), (0, .class_ 4), (0, u "java/lang/Object")] 2

/-- java/io/Serializable -/
def k2 : Class := { plain "java/io/Serializable" (some 0) with
  accessFlags := 1537
  interfaces := #[]
  cf := some (fileOf pool2 1 #[] #[] 1537 3 #[] #[])
  fields := #[]
  methods := #[]
  instanceTypes := #[]
  staticTypes := #[]
  resolved := Array.replicate 7 none
  statics := none }

def pool3 : Array CpInfo := pool [(1, .class_ 2), (0, u "java/lang/Comparable"), (0, .class_ 4), (0, u "java/lang/Object")] 7

/-- java/lang/Comparable -/
def k3 : Class := { plain "java/lang/Comparable" (some 0) with
  accessFlags := 1537
  interfaces := #[]
  cf := some (fileOf pool3 1 #[] #[] 1537 3 #[] #[])
  fields := #[]
  methods := #[]
  instanceTypes := #[]
  staticTypes := #[]
  resolved := Array.replicate 12 none
  statics := none }

def pool4 : Array CpInfo := pool [(2, .class_ 4), (1, u "java/lang/CharSequence"), (42, .class_ 48), (0, u "java/lang/CharSequence$1CodePointIterator"), (10, .class_ 60), (0, u "java/lang/CharSequence$1CharIterator"), (5, .class_ 67), (0, u "java/lang/Object")] 63

/-- java/lang/CharSequence -/
def k4 : Class := { plain "java/lang/CharSequence" (some 0) with
  accessFlags := 1537
  interfaces := #[]
  cf := some (fileOf pool4 2 #[.nestMembers #[47, 59]] #[] 1537 66 #[] #[])
  fields := #[]
  methods := #[]
  instanceTypes := #[]
  staticTypes := #[]
  resolved := Array.replicate 131 none
  statics := none }

def pool5 : Array CpInfo := pool [(1, .class_ 2), (0, u "java/lang/constant/Constable"), (0, .class_ 4), (0, u "java/lang/Object")] 6

/-- java/lang/constant/Constable -/
def k5 : Class := { plain "java/lang/constant/Constable" (some 0) with
  accessFlags := 1537
  interfaces := #[]
  cf := some (fileOf pool5 1 #[] #[] 1537 3 #[] #[])
  fields := #[]
  methods := #[]
  instanceTypes := #[]
  staticTypes := #[]
  resolved := Array.replicate 11 none
  statics := none }

def pool6 : Array CpInfo := pool [(1, .class_ 2), (0, u "java/lang/constant/ConstantDesc"), (0, .class_ 4), (0, u "java/lang/Object")] 32

/-- java/lang/constant/ConstantDesc -/
def k6 : Class := { plain "java/lang/constant/ConstantDesc" (some 0) with
  accessFlags := 1537
  interfaces := #[]
  cf := some (fileOf pool6 1 #[] #[] 1537 3 #[] #[])
  fields := #[]
  methods := #[]
  instanceTypes := #[]
  staticTypes := #[]
  resolved := Array.replicate 37 none
  statics := none }

def pool7 : Array CpInfo := pool [(2, .class_ 4), (1, u "java/lang/Object"), (0, u "<init>"), (0, u "()V"), (2, .fieldref 10 11), (0, .class_ 12), (0, .nameAndType 13 14), (0, u "java/lang/String"), (0, u "value"), (0, u "[B"), (0, .fieldref 10 16), (0, .nameAndType 17 18), (0, u "coder"), (0, u "B"), (2, u "hash"), (0, u "I"), (2, u "hashIsZero"), (0, u "Z"), (11, .fieldref 10 39), (0, .nameAndType 40 26), (0, u "COMPACT_STRINGS"), (66, .class_ 109), (1, u "java/lang/StringLatin1"), (32, u "()Z"), (220, u "([BI)C"), (27, u "(II)V"), (35, u "(I)C"), (64, .methodref 10 493), (0, .nameAndType 494 142), (0, u "isLatin1"), (0, .methodref 107 496), (0, .nameAndType 497 363), (0, u "charAt"), (3, u "checkIndex"), (73, .class_ 576), (0, u "java/lang/CharSequence"), (22, u "CASE_INSENSITIVE_ORDER"), (0, u "Ljava/util/Comparator;"), (452, .fieldref 1054 1055), (0, .class_ 1056), (0, .nameAndType 1057 1058), (0, u "jdk/internal/util/Preconditions"), (0, u "SIOOBE_FORMATTER"), (0, u "Ljava/util/function/BiFunction;"), (0, .methodref 1054 1060), (0, .nameAndType 501 1061), (0, u "(IILjava/util/function/BiFunction;)I"), (39, u "serialPersistentFields"), (0, u "[Ljava/io/ObjectStreamField;"), (0, .class_ 1104), (0, u "java/lang/String$CaseInsensitiveComparator"), (1, .class_ 1107), (0, u "java/io/Serializable"), (0, .class_ 1109), (0, u "java/lang/Comparable"), (0, .class_ 1111), (0, u "java/lang/constant/Constable"), (0, .class_ 1113), (0, u "java/lang/constant/ConstantDesc"), (2, u "serialVersionUID"), (0, u "J"), (3, u "REPL"), (0, u "C"), (2, u "LATIN1"), (1, u "UTF16")] 323

def k7m0 : Method := { name := "<init>", desc := "()V", sig := { parameters := [], returnType := none }, accessFlags := 1, code := none }
def k7c1 : Code := { maxStack := 2, maxLocals := 2, code := jdk_42_method_56_code, exceptionTable := #[], attributes := #[] }
def k7m1 : Method := { name := "charAt", desc := "(I)C", sig := { parameters := [.int], returnType := some .char }, accessFlags := 1, code := some k7c1 }
def k7c2 : Code := { maxStack := 1, maxLocals := 1, code := jdk_42_method_154_code, exceptionTable := #[], attributes := #[] }
def k7m2 : Method := { name := "isLatin1", desc := "()Z", sig := { parameters := [], returnType := some .boolean }, accessFlags := 0, code := some k7c2 }
def k7c3 : Code := { maxStack := 3, maxLocals := 2, code := jdk_42_method_155_code, exceptionTable := #[], attributes := #[] }
def k7m3 : Method := { name := "checkIndex", desc := "(II)V", sig := { parameters := [.int, .int], returnType := none }, accessFlags := 8, code := some k7c3 }
/-- java/lang/String -/
def k7 : Class := { plain "java/lang/String" (some 0) with
  accessFlags := 49
  interfaces := #[2, 3, 4, 5, 6]
  cf := some (fileOf pool7 10 #[.nestMembers #[1103]] #[{ accessFlags := 1, nameIndex := 5, descriptorIndex := 6, attributes := #[] }, { accessFlags := 1, nameIndex := 497, descriptorIndex := 427, attributes := #[] }, { accessFlags := 0, nameIndex := 494, descriptorIndex := 142, attributes := #[] }, { accessFlags := 8, nameIndex := 501, descriptorIndex := 391, attributes := #[] }] 49 2 #[1106, 1108, 575, 1110, 1112] #[{ accessFlags := 18, nameIndex := 13, descriptorIndex := 14, attributes := #[] }, { accessFlags := 18, nameIndex := 17, descriptorIndex := 18, attributes := #[] }, { accessFlags := 2, nameIndex := 21, descriptorIndex := 22, attributes := #[] }, { accessFlags := 2, nameIndex := 25, descriptorIndex := 26, attributes := #[] }, { accessFlags := 26, nameIndex := 1116, descriptorIndex := 1117, attributes := #[] }, { accessFlags := 24, nameIndex := 40, descriptorIndex := 26, attributes := #[] }, { accessFlags := 26, nameIndex := 1101, descriptorIndex := 1102, attributes := #[] }, { accessFlags := 26, nameIndex := 1121, descriptorIndex := 1122, attributes := #[] }, { accessFlags := 25, nameIndex := 599, descriptorIndex := 600, attributes := #[] }, { accessFlags := 24, nameIndex := 1125, descriptorIndex := 18, attributes := #[] }, { accessFlags := 24, nameIndex := 1127, descriptorIndex := 18, attributes := #[] }])
  fields := #[{ name := "value", type := (.array .byte), accessFlags := 18, slot := 0, constantValue := 0 }, { name := "coder", type := .byte, accessFlags := 18, slot := 1, constantValue := 0 }, { name := "hash", type := .int, accessFlags := 2, slot := 2, constantValue := 0 }, { name := "hashIsZero", type := .boolean, accessFlags := 2, slot := 3, constantValue := 0 }, { name := "serialVersionUID", type := .long, accessFlags := 26, slot := 0, constantValue := 0 }, { name := "COMPACT_STRINGS", type := .boolean, accessFlags := 24, slot := 1, constantValue := 0 }, { name := "serialPersistentFields", type := (.array (.object "java/io/ObjectStreamField")), accessFlags := 26, slot := 2, constantValue := 0 }, { name := "REPL", type := .char, accessFlags := 26, slot := 3, constantValue := 0 }, { name := "CASE_INSENSITIVE_ORDER", type := (.object "java/util/Comparator"), accessFlags := 25, slot := 4, constantValue := 0 }, { name := "LATIN1", type := .byte, accessFlags := 24, slot := 5, constantValue := 0 }, { name := "UTF16", type := .byte, accessFlags := 24, slot := 6, constantValue := 0 }]
  methods := #[k7m0, k7m1, k7m2, k7m3]
  instanceTypes := #[(.array .byte), .byte, .int, .boolean]
  staticTypes := #[.long, .boolean, (.array (.object "java/io/ObjectStreamField")), .char, (.object "java/util/Comparator"), .byte, .byte]
  resolved := Array.replicate 1451 none
  statics := some 0 }

def pool8 : Array CpInfo := pool [(1, .class_ 2), (0, u "java/lang/String"), (1, .class_ 6), (1, u "java/lang/Object"), (0, u "<init>"), (0, u "()V"), (0, .methodref 1 10), (0, .nameAndType 11 12), (0, u "checkIndex"), (0, u "(II)V"), (1, .class_ 16), (1, u "java/lang/StringLatin1"), (36, u "([BI)C"), (67, u "$assertionsDisabled"), (0, u "Z"), (98, .class_ 223), (1, u "java/lang/StringLatin1$LinesSpliterator"), (28, u "charAt"), (137, .class_ 391), (0, u "java/lang/StringLatin1$CharsSpliterator")] 3

def k8m0 : Method := { name := "<init>", desc := "()V", sig := { parameters := [], returnType := none }, accessFlags := 0, code := none }
def k8c1 : Code := { maxStack := 2, maxLocals := 2, code := jdk_43_method_2_code, exceptionTable := #[], attributes := #[] }
def k8m1 : Method := { name := "charAt", desc := "([BI)C", sig := { parameters := [(.array .byte), .int], returnType := some .char }, accessFlags := 9, code := some k8c1 }
/-- java/lang/StringLatin1 -/
def k8 : Class := { plain "java/lang/StringLatin1" (some 0) with
  accessFlags := 48
  interfaces := #[]
  cf := some (fileOf pool8 14 #[.nestMembers #[390, 221]] #[{ accessFlags := 0, nameIndex := 7, descriptorIndex := 8, attributes := #[] }, { accessFlags := 9, nameIndex := 252, descriptorIndex := 53, attributes := #[] }] 48 4 #[] #[{ accessFlags := 4120, nameIndex := 121, descriptorIndex := 122, attributes := #[] }])
  fields := #[{ name := "$assertionsDisabled", type := .boolean, accessFlags := 4120, slot := 0, constantValue := 0 }]
  methods := #[k8m0, k8m1]
  instanceTypes := #[]
  staticTypes := #[.boolean]
  resolved := Array.replicate 395 none
  statics := none }

def pool9 : Array CpInfo := pool [(2, .class_ 4), (1, u "java/lang/Object"), (0, u "<init>"), (0, u "()V"), (17, .class_ 26), (1, u "jdk/internal/util/Preconditions"), (6, u "checkIndex"), (21, .class_ 56), (0, u "jdk/internal/util/Preconditions$4"), (57, .class_ 115), (0, u "jdk/internal/util/Preconditions$1"), (7, u "SIOOBE_FORMATTER"), (0, u "Ljava/util/function/BiFunction;"), (0, .class_ 126), (0, u "jdk/internal/util/Preconditions$2"), (3, u "AIOOBE_FORMATTER"), (0, .class_ 132), (0, u "jdk/internal/util/Preconditions$3"), (3, u "IOOBE_FORMATTER"), (41, u "(IILjava/util/function/BiFunction;)I")] 15

def k9m0 : Method := { name := "<init>", desc := "()V", sig := { parameters := [], returnType := none }, accessFlags := 1, code := none }
def k9c1 : Code := { maxStack := 3, maxLocals := 3, code := jdk_41_method_11_code, exceptionTable := #[], attributes := #[] }
def k9m1 : Method := { name := "checkIndex", desc := "(IILjava/util/function/BiFunction;)I", sig := { parameters := [.int, .int, (.object "java/util/function/BiFunction")], returnType := some .int }, accessFlags := 9, code := some k9c1 }
/-- jdk/internal/util/Preconditions -/
def k9 : Class := { plain "jdk/internal/util/Preconditions" (some 0) with
  accessFlags := 33
  interfaces := #[]
  cf := some (fileOf pool9 24 #[.nestMembers #[55, 131, 125, 114]] #[{ accessFlags := 1, nameIndex := 5, descriptorIndex := 6, attributes := #[] }, { accessFlags := 9, nameIndex := 33, descriptorIndex := 178, attributes := #[] }] 33 2 #[] #[{ accessFlags := 25, nameIndex := 123, descriptorIndex := 124, attributes := #[] }, { accessFlags := 25, nameIndex := 130, descriptorIndex := 124, attributes := #[] }, { accessFlags := 25, nameIndex := 136, descriptorIndex := 124, attributes := #[] }])
  fields := #[{ name := "SIOOBE_FORMATTER", type := (.object "java/util/function/BiFunction"), accessFlags := 25, slot := 0, constantValue := 0 }, { name := "AIOOBE_FORMATTER", type := (.object "java/util/function/BiFunction"), accessFlags := 25, slot := 1, constantValue := 0 }, { name := "IOOBE_FORMATTER", type := (.object "java/util/function/BiFunction"), accessFlags := 25, slot := 2, constantValue := 0 }]
  methods := #[k9m0, k9m1]
  instanceTypes := #[]
  staticTypes := #[(.object "java/util/function/BiFunction"), (.object "java/util/function/BiFunction"), (.object "java/util/function/BiFunction")]
  resolved := Array.replicate 194 none
  statics := some 1 }

def pool10 : Array CpInfo := pool [(2, .class_ 4), (1, u "java/lang/Object"), (0, u "<init>"), (0, u "()V"), (7, .class_ 16), (1, u "com/example/makusanyo/makusanyo/PercentEscapes"), (31, .class_ 50), (1, u "com/example/makusanyo/makusanyo/PercentEscapes$Part"), (66, u "hexDigit"), (0, u "(I)Z"), (0, u "PATH_PUNCTUATION"), (0, u "Ljava/lang/String;"), (3, u "MALFORMED"), (0, u "UNENCODED")] 32

def k10m0 : Method := { name := "<init>", desc := "()V", sig := { parameters := [], returnType := none }, accessFlags := 2, code := none }
def k10c1 : Code := { maxStack := 2, maxLocals := 1, code := prog_13_method_10_code, exceptionTable := #[], attributes := #[] }
def k10m1 : Method := { name := "hexDigit", desc := "(I)Z", sig := { parameters := [.int], returnType := some .boolean }, accessFlags := 8, code := some k10c1 }
/-- com/example/makusanyo/makusanyo/PercentEscapes -/
def k10 : Class := { plain "com/example/makusanyo/makusanyo/PercentEscapes" (some 0) with
  accessFlags := 48
  interfaces := #[]
  cf := some (fileOf pool10 14 #[.nestMembers #[48]] #[{ accessFlags := 2, nameIndex := 5, descriptorIndex := 6, attributes := #[] }, { accessFlags := 8, nameIndex := 117, descriptorIndex := 118, attributes := #[] }] 48 2 #[] #[{ accessFlags := 26, nameIndex := 119, descriptorIndex := 120, attributes := #[] }, { accessFlags := 26, nameIndex := 124, descriptorIndex := 120, attributes := #[] }, { accessFlags := 26, nameIndex := 125, descriptorIndex := 120, attributes := #[] }])
  fields := #[{ name := "PATH_PUNCTUATION", type := (.object "java/lang/String"), accessFlags := 26, slot := 0, constantValue := 0 }, { name := "MALFORMED", type := (.object "java/lang/String"), accessFlags := 26, slot := 1, constantValue := 0 }, { name := "UNENCODED", type := (.object "java/lang/String"), accessFlags := 26, slot := 2, constantValue := 0 }]
  methods := #[k10m0, k10m1]
  instanceTypes := #[]
  staticTypes := #[(.object "java/lang/String"), (.object "java/lang/String"), (.object "java/lang/String")]
  resolved := Array.replicate 158 none
  statics := none }

def pool11 : Array CpInfo := pool [(9, u "<init>"), (6, .class_ 18), (1, u "java/lang/Object"), (0, u "()V"), (1, .class_ 23), (1, u "jdk/internal/util/ArraysSupport"), (0, u "LOG2_ARRAY_LONG_INDEX_SCALE"), (0, u "I"), (2, u "U"), (0, u "Ljdk/internal/misc/Unsafe;"), (8, u "BIG_ENDIAN"), (0, u "Z"), (8, u "LOG2_BYTE_BIT_SIZE"), (4, u "LOG2_ARRAY_INT_INDEX_SCALE"), (54, u "JLA"), (0, u "Ljdk/internal/access/JavaLangAccess;"), (11, u "LOG2_ARRAY_BOOLEAN_INDEX_SCALE"), (9, u "LOG2_ARRAY_BYTE_INDEX_SCALE"), (5, u "LOG2_ARRAY_CHAR_INDEX_SCALE"), (5, u "LOG2_ARRAY_SHORT_INDEX_SCALE"), (18, u "LOG2_ARRAY_FLOAT_INDEX_SCALE"), (24, u "LOG2_ARRAY_DOUBLE_INDEX_SCALE"), (89, u "T_BOOLEAN"), (2, u "T_CHAR"), (1, u "T_FLOAT"), (1, u "T_DOUBLE"), (1, u "T_BYTE"), (1, u "T_SHORT"), (1, u "T_INT"), (1, u "T_LONG"), (1, u "SOFT_MAX_ARRAY_LENGTH")] 83

def k11m0 : Method := { name := "<init>", desc := "()V", sig := { parameters := [], returnType := none }, accessFlags := 2, code := none }
/-- jdk/internal/util/ArraysSupport -/
def k11 : Class := { plain "jdk/internal/util/ArraysSupport" (some 0) with
  accessFlags := 33
  interfaces := #[]
  cf := some (fileOf pool11 21 #[] #[{ accessFlags := 2, nameIndex := 9, descriptorIndex := 19, attributes := #[] }] 33 16 #[] #[{ accessFlags := 24, nameIndex := 28, descriptorIndex := 29, attributes := #[] }, { accessFlags := 26, nameIndex := 38, descriptorIndex := 39, attributes := #[] }, { accessFlags := 25, nameIndex := 121, descriptorIndex := 25, attributes := #[] }, { accessFlags := 25, nameIndex := 131, descriptorIndex := 25, attributes := #[] }, { accessFlags := 25, nameIndex := 137, descriptorIndex := 25, attributes := #[] }, { accessFlags := 25, nameIndex := 143, descriptorIndex := 25, attributes := #[] }, { accessFlags := 25, nameIndex := 53, descriptorIndex := 25, attributes := #[] }, { accessFlags := 25, nameIndex := 24, descriptorIndex := 25, attributes := #[] }, { accessFlags := 25, nameIndex := 162, descriptorIndex := 25, attributes := #[] }, { accessFlags := 25, nameIndex := 187, descriptorIndex := 25, attributes := #[] }, { accessFlags := 26, nameIndex := 48, descriptorIndex := 25, attributes := #[] }, { accessFlags := 25, nameIndex := 277, descriptorIndex := 25, attributes := #[] }, { accessFlags := 25, nameIndex := 280, descriptorIndex := 25, attributes := #[] }, { accessFlags := 25, nameIndex := 282, descriptorIndex := 25, attributes := #[] }, { accessFlags := 25, nameIndex := 284, descriptorIndex := 25, attributes := #[] }, { accessFlags := 25, nameIndex := 286, descriptorIndex := 25, attributes := #[] }, { accessFlags := 25, nameIndex := 288, descriptorIndex := 25, attributes := #[] }, { accessFlags := 25, nameIndex := 290, descriptorIndex := 25, attributes := #[] }, { accessFlags := 25, nameIndex := 292, descriptorIndex := 25, attributes := #[] }, { accessFlags := 26, nameIndex := 108, descriptorIndex := 109, attributes := #[] }, { accessFlags := 25, nameIndex := 294, descriptorIndex := 25, attributes := #[] }])
  fields := #[{ name := "U", type := (.object "jdk/internal/misc/Unsafe"), accessFlags := 24, slot := 0, constantValue := 0 }, { name := "BIG_ENDIAN", type := .boolean, accessFlags := 26, slot := 1, constantValue := 0 }, { name := "LOG2_ARRAY_BOOLEAN_INDEX_SCALE", type := .int, accessFlags := 25, slot := 2, constantValue := 0 }, { name := "LOG2_ARRAY_BYTE_INDEX_SCALE", type := .int, accessFlags := 25, slot := 3, constantValue := 0 }, { name := "LOG2_ARRAY_CHAR_INDEX_SCALE", type := .int, accessFlags := 25, slot := 4, constantValue := 0 }, { name := "LOG2_ARRAY_SHORT_INDEX_SCALE", type := .int, accessFlags := 25, slot := 5, constantValue := 0 }, { name := "LOG2_ARRAY_INT_INDEX_SCALE", type := .int, accessFlags := 25, slot := 6, constantValue := 0 }, { name := "LOG2_ARRAY_LONG_INDEX_SCALE", type := .int, accessFlags := 25, slot := 7, constantValue := 0 }, { name := "LOG2_ARRAY_FLOAT_INDEX_SCALE", type := .int, accessFlags := 25, slot := 8, constantValue := 0 }, { name := "LOG2_ARRAY_DOUBLE_INDEX_SCALE", type := .int, accessFlags := 25, slot := 9, constantValue := 0 }, { name := "LOG2_BYTE_BIT_SIZE", type := .int, accessFlags := 26, slot := 10, constantValue := 0 }, { name := "T_BOOLEAN", type := .int, accessFlags := 25, slot := 11, constantValue := 0 }, { name := "T_CHAR", type := .int, accessFlags := 25, slot := 12, constantValue := 0 }, { name := "T_FLOAT", type := .int, accessFlags := 25, slot := 13, constantValue := 0 }, { name := "T_DOUBLE", type := .int, accessFlags := 25, slot := 14, constantValue := 0 }, { name := "T_BYTE", type := .int, accessFlags := 25, slot := 15, constantValue := 0 }, { name := "T_SHORT", type := .int, accessFlags := 25, slot := 16, constantValue := 0 }, { name := "T_INT", type := .int, accessFlags := 25, slot := 17, constantValue := 0 }, { name := "T_LONG", type := .int, accessFlags := 25, slot := 18, constantValue := 0 }, { name := "JLA", type := (.object "jdk/internal/access/JavaLangAccess"), accessFlags := 26, slot := 19, constantValue := 0 }, { name := "SOFT_MAX_ARRAY_LENGTH", type := .int, accessFlags := 25, slot := 20, constantValue := 0 }]
  methods := #[k11m0]
  instanceTypes := #[]
  staticTypes := #[(.object "jdk/internal/misc/Unsafe"), .boolean, .int, .int, .int, .int, .int, .int, .int, .int, .int, .int, .int, .int, .int, .int, .int, .int, .int, (.object "jdk/internal/access/JavaLangAccess"), .int]
  resolved := Array.replicate 378 none
  statics := none }

def pool12 : Array CpInfo := pool [(1, u "java/lang/Cloneable"), (0, .class_ 1), (0, u "java/lang/Object"), (0, .class_ 3)] 3

/-- java/lang/Cloneable -/
def k12 : Class := { plain "java/lang/Cloneable" (some 0) with
  accessFlags := 1537
  interfaces := #[]
  cf := some (fileOf pool12 2 #[] #[] 1537 4 #[] #[])
  fields := #[]
  methods := #[]
  instanceTypes := #[]
  staticTypes := #[]
  resolved := Array.replicate 8 none
  statics := none }

/-- the primitive byte -/
def k13 : Class := { plain "byte" none with kind := .primitive 'B', accessFlags := 0x411 }
/-- [B -/
def k14 : Class := { plain "[B" (some 0) with kind := .array 13 .byte, interfaces := #[12, 2], accessFlags := 1041 }

/-- the primitive int -/
def k15 : Class := { plain "int" none with kind := .primitive 'I', accessFlags := 0x411 }
/-- [I -/
def k16 : Class := { plain "[I" (some 0) with kind := .array 15 .int, interfaces := #[12, 2], accessFlags := 1041 }

def heap : Heap := #[{ cls := 7, slots := #[.long 0, .int 1, .null, .int 0, .null, .int 0, .int 0], vm := .statics 7 },
  { cls := 9, slots := #[.null, .null, .null], vm := .statics 9 }]
def classes : Array Class := #[k0, k1, k2, k3, k4, k5, k6, k7, k8, k9, k10, k11, k12, k13, k14, k15, k16]
def interned : List (Array UInt16 × Addr) := []
def slotsUsed : Nat := 10
def theMethod : MethodId := ⟨1, 2⟩
def args0 : Array Value := #[.int 5, .int 6, .int 7]
def aboutOver (below : List Frame) : State where
  vm := { classes := classes, interned := interned.toArray }
  heap := heap
  slotsUsed := slotsUsed
  threads := #[{ frames := .invoking theMethod args0 :: below }]
def below0 : List Frame := [.native { method := ⟨0, 0⟩, args := #[] }]
def about1 : State := aboutOver below0
def p0 : Program := .bare "" "" ""
def e0 : Env := launch0.env 0 0 0
theorem w_frames : about1.frames = Frame.invoking theMethod args0 :: below0 := rfl
set_option maxRecDepth 65536 in
theorem w_args : argsFit about1.vm theMethod args0 = true := by decide +kernel
set_option maxRecDepth 65536 in
theorem w_heap : heapFits about1 = true := by decide +kernel
set_option maxRecDepth 65536 in
theorem w_runnable : about1.curStatus? = some .runnable := by decide +kernel
set_option maxRecDepth 65536 in
theorem w_alone : about1.alone = true := by decide +kernel
set_option maxRecDepth 65536 in
theorem w_named : about1.methodNamed? x = some theMethod := by decide +kernel
set_option maxRecDepth 65536 in
theorem w_hears : about1.hears theMethod below0 = true := by decide +kernel
set_option maxRecDepth 65536 in
theorem w_ripe : about1.ripe theMethod args0 below0 = true := by decide +kernel
theorem w_running : about1.status = .running := rfl
set_option maxRecDepth 65536 in
theorem w_room : about1.hasRoom e0.platform room_1 = true :=
  launch0.hasRoom_least _ room_1 (by decide +kernel) (by decide +kernel) (by decide +kernel) (by decide +kernel) (by decide +kernel) (by decide +kernel)
theorem allAtoms_all (ts : List Jvm.Cond) (a : Array Jvm.Value) (st : Jvm.State) : (allAtoms ts).before a st = ts.all (fun c => c.before a st) := by
  induction ts with
  | nil => rfl
  | cons c t ih =>
    show (Jvm.Cond.and c (allAtoms t)).before a st = _
    rw [Jvm.Cond.before_and, ih, List.all_cons]
def words1 : List Jvm.Cond := Jvm.Cond.code x code maxLocals ret :: tables_1
/-- a 'code' word, met by the world's own term for the bytes: nothing is compared byte by byte -/
theorem code_word {y : MethodName} {bytes : ByteArray} {mx : Nat} {rt : Option FieldType} {a : Array Value} {s : State} {m : MethodId} {meth : Method} {c : Code} (h1 : s.methodNamed? y = some m) (h2 : s.vm.method? m = some meth) (h3 : meth.code = some c) (h4 : c.code = bytes)
    (h5 : (c.maxLocals == mx && c.exceptionTable.isEmpty && decide (c.maxStack ≤ mostOperands) && decide (meth.sig.returnType = rt) && !meth.locks && decide (parseMethodDescriptor y.desc = some meth.sig)) = true) : (Jvm.Cond.code y bytes mx rt).before a s = true := by
  simp only [Bool.and_eq_true, beq_iff_eq, Bool.not_eq_true', decide_eq_true_eq] at h5
  obtain ⟨⟨⟨⟨⟨g1, g2⟩, g3⟩, g4⟩, g5⟩, g6⟩ := h5
  simp [Cond.before, Cond.holds, Cond.value, h1, h2, h3, h4, g1, g2, g3, g4, g5, g6]
def isCode : Jvm.Cond → Bool
  | .code _ _ _ _ => true
  | _ => false
theorem all_split {L : List Jvm.Cond} {P : Jvm.Cond → Bool} (h1 : L.all (fun c => isCode c || P c) = true) (h2 : ∀ c ∈ L.filter isCode, P c = true) : L.all P = true := by
  refine List.all_eq_true.mpr fun c hc => ?_
  have h := List.all_eq_true.mp h1 c hc
  rcases Bool.eq_false_or_eq_true (isCode c) with hi | hi
  · exact h2 c (List.mem_filter.mpr ⟨hc, hi⟩)
  · simpa [hi] using h
set_option maxRecDepth 65536 in
theorem w_c0 : (Jvm.Cond.code x code maxLocals ret).before args0 about1 = true := code_word (m := ⟨1, 2⟩) (meth := k1m2) (c := k1c2) (by decide +kernel) rfl rfl rfl (by decide +kernel)
set_option maxRecDepth 65536 in
theorem w_c1 : (Jvm.Cond.code ({ cls := "java/lang/String", name := "charAt", desc := "(I)C" } : Jvm.MethodName) jdk_42_method_56_code (2 : Nat) (Option.some Jvm.ClassFile.FieldType.char)).before args0 about1 = true := code_word (m := ⟨7, 1⟩) (meth := k7m1) (c := k7c1) (by decide +kernel) rfl rfl rfl (by decide +kernel)
set_option maxRecDepth 65536 in
theorem w_c2 : (Jvm.Cond.code ({ cls := "java/lang/String", name := "isLatin1", desc := "()Z" } : Jvm.MethodName) jdk_42_method_154_code (1 : Nat) (Option.some Jvm.ClassFile.FieldType.boolean)).before args0 about1 = true := code_word (m := ⟨7, 2⟩) (meth := k7m2) (c := k7c2) (by decide +kernel) rfl rfl rfl (by decide +kernel)
set_option maxRecDepth 65536 in
theorem w_c3 : (Jvm.Cond.code ({ cls := "java/lang/StringLatin1", name := "charAt", desc := "([BI)C" } : Jvm.MethodName) jdk_43_method_2_code (2 : Nat) (Option.some Jvm.ClassFile.FieldType.char)).before args0 about1 = true := code_word (m := ⟨8, 1⟩) (meth := k8m1) (c := k8c1) (by decide +kernel) rfl rfl rfl (by decide +kernel)
set_option maxRecDepth 65536 in
theorem w_c4 : (Jvm.Cond.code ({ cls := "java/lang/String", name := "checkIndex", desc := "(II)V" } : Jvm.MethodName) jdk_42_method_155_code (2 : Nat) (Option.none : Option Jvm.ClassFile.FieldType)).before args0 about1 = true := code_word (m := ⟨7, 3⟩) (meth := k7m3) (c := k7c3) (by decide +kernel) rfl rfl rfl (by decide +kernel)
set_option maxRecDepth 65536 in
theorem w_c5 : (Jvm.Cond.code ({ cls := "jdk/internal/util/Preconditions", name := "checkIndex", desc := "(IILjava/util/function/BiFunction;)I" } : Jvm.MethodName) jdk_41_method_11_code (3 : Nat) (Option.some Jvm.ClassFile.FieldType.int)).before args0 about1 = true := code_word (m := ⟨9, 1⟩) (meth := k9m1) (c := k9c1) (by decide +kernel) rfl rfl rfl (by decide +kernel)
set_option maxRecDepth 65536 in
theorem w_c6 : (Jvm.Cond.code ({ cls := "com/example/makusanyo/makusanyo/PercentEscapes", name := "hexDigit", desc := "(I)Z" } : Jvm.MethodName) prog_13_method_10_code (1 : Nat) (Option.some Jvm.ClassFile.FieldType.boolean)).before args0 about1 = true := code_word (m := ⟨10, 1⟩) (meth := k10m1) (c := k10c1) (by decide +kernel) rfl rfl rfl (by decide +kernel)
set_option maxRecDepth 65536 in
theorem w_c7 : (Jvm.Cond.code ({ cls := "com/example/makusanyo/makusanyo/PercentEscapesHexDigitPinLaw", name := "reference", desc := "(I)Z" } : Jvm.MethodName) method_2_code (4 : Nat) (Option.some Jvm.ClassFile.FieldType.boolean)).before args0 about1 = true := code_word (m := ⟨1, 1⟩) (meth := k1m1) (c := k1c1) (by decide +kernel) rfl rfl rfl (by decide +kernel)
def codes1 : List Jvm.Cond := [Jvm.Cond.code x code maxLocals ret, Jvm.Cond.code ({ cls := "java/lang/String", name := "charAt", desc := "(I)C" } : Jvm.MethodName) jdk_42_method_56_code (2 : Nat) (Option.some Jvm.ClassFile.FieldType.char), Jvm.Cond.code ({ cls := "java/lang/String", name := "isLatin1", desc := "()Z" } : Jvm.MethodName) jdk_42_method_154_code (1 : Nat) (Option.some Jvm.ClassFile.FieldType.boolean), Jvm.Cond.code ({ cls := "java/lang/StringLatin1", name := "charAt", desc := "([BI)C" } : Jvm.MethodName) jdk_43_method_2_code (2 : Nat) (Option.some Jvm.ClassFile.FieldType.char), Jvm.Cond.code ({ cls := "java/lang/String", name := "checkIndex", desc := "(II)V" } : Jvm.MethodName) jdk_42_method_155_code (2 : Nat) (Option.none : Option Jvm.ClassFile.FieldType), Jvm.Cond.code ({ cls := "jdk/internal/util/Preconditions", name := "checkIndex", desc := "(IILjava/util/function/BiFunction;)I" } : Jvm.MethodName) jdk_41_method_11_code (3 : Nat) (Option.some Jvm.ClassFile.FieldType.int), Jvm.Cond.code ({ cls := "com/example/makusanyo/makusanyo/PercentEscapes", name := "hexDigit", desc := "(I)Z" } : Jvm.MethodName) prog_13_method_10_code (1 : Nat) (Option.some Jvm.ClassFile.FieldType.boolean), Jvm.Cond.code ({ cls := "com/example/makusanyo/makusanyo/PercentEscapesHexDigitPinLaw", name := "reference", desc := "(I)Z" } : Jvm.MethodName) method_2_code (4 : Nat) (Option.some Jvm.ClassFile.FieldType.boolean)]
set_option maxRecDepth 65536 in
theorem codes_eq : words1.filter isCode = codes1 := rfl
theorem w_codes : ∀ c ∈ words1.filter isCode, c.before args0 about1 = true := by
  rw [codes_eq]
  intro c hc
  simp only [codes1, List.mem_cons, List.not_mem_nil, or_false] at hc
  rcases hc with rfl | rfl | rfl | rfl | rfl | rfl | rfl | rfl
  · exact w_c0
  · exact w_c1
  · exact w_c2
  · exact w_c3
  · exact w_c4
  · exact w_c5
  · exact w_c6
  · exact w_c7
set_option maxRecDepth 65536 in
theorem w_t1 : (words1.take 24).all (fun c => isCode c || c.before args0 about1) = true := by decide +kernel
set_option maxRecDepth 65536 in
theorem w_t2 : (words1.drop 24).all (fun c => isCode c || c.before args0 about1) = true := by decide +kernel
theorem w_tables : (allAtoms (Jvm.Cond.code x code maxLocals ret :: tables_1)).before args0 about1 = true := by
  rw [allAtoms_all]
  show words1.all (fun c => c.before args0 about1) = true
  refine all_split ?_ w_codes
  rw [← List.take_append_drop 24 words1, List.all_append, w_t1, w_t2]
  rfl
set_option maxRecDepth 65536 in
theorem w_rest : rest_1_c.before args0 about1 = true := by decide +kernel
set_option maxRecDepth 65536 in
theorem w_case : (Jvm.Cond.and given_1 narrow_1).before args0 about1 = true := by decide +kernel
set_option maxRecDepth 65536 in
theorem w_consts : constsHeld consts_1 about1 := Jvm.Lit.constsHeldB_iff.mp (by decide +kernel)
theorem w_applies : (headSpec (Jvm.Cond.code x code maxLocals ret :: tables_1) room_1).applies x e0.platform about1 = true :=
  (Spec.applies_iff w_frames).mpr ⟨w_running, w_runnable, w_alone, w_named, w_hears, w_ripe, w_room, w_tables⟩
theorem atStart : AtStart classFile x code maxLocals ret World_1 tables_1 room_1 Calls_1 rest_1 Pre_1 launch0 p0 e0 about1 theMethod args0 below0 :=
  ⟨lists_1, trivial, launch0.admits_env _ _ _, launch0.least_env, fairChoices_fair.cas, fairChoices_fair.clock, w_frames, w_args, w_heap, w_applies, ⟨w_consts, trivial⟩, w_rest, w_case⟩
end start1
theorem witness_1 : WitnessClaimed_1 := ⟨start1.p0, start1.e0, start1.about1, start1.theMethod, start1.args0, start1.below0, start1.atStart⟩
end Jvm.Pilot.@@N@@
