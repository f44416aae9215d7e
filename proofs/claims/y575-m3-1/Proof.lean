import JvmDerived
import JvmDerived.Pilot.@@N@@Statement
import JvmDerived.Pilot.@@N@@Code
set_option linter.unusedVariables false
set_option linter.unusedSimpArgs false
namespace Jvm.RoadKit
open Sem ClassFile Op Lib Jvm.Stand Jvm.Free Jvm.LawKit
section New
variable {p : Program} {l : Launch} {e : Env} {R : Room} {s : State} {m : MethodId} {args : Array Value} {below : List Frame} {meth : Method} {c : Code} {T : State} {locs : List Loc} {cells slots : Nat}
theorem retI (X : Stand p l e R s m args below meth c T locs cells slots) (hx : p.tables.exec = Jvm.exec) {pc : Nat} {Ls : Array Slot} {z : Int32} {rest : List Value} (hret : meth.sig.returnType = some .int) (hd : decode c.code pc = .ok (.ireturn, 1)) {fs : List Frame}
    (hl : ∀ (f : JFrame) (acts : List Action), f.method = m → f.locked = none → f.entered = [] → (doReturn e (T.setTop f) acts (some (.int z))).1 = T.setFrames fs) : Steps p.tables e below (T.setTop (mkF m pc Ls (.int z :: rest))) (T.setFrames fs) :=
  retOut X hx hret rfl (Or.inl ⟨rfl, Or.inl rfl, _, rfl⟩) hd hl
end New
end Jvm.RoadKit
namespace Jvm.Pilot.@@N@@
open Jvm Jvm.ClassFile Sem Op Lib Jvm.Free Jvm.Stand Jvm.LawKit Jvm.RoadKit Bundle Jvm.Pilot.@@N@@.Jvm.D
theorem own_sub {p : Program} {l : Launch} {e : Env} {R : Room} {s : State} {m : MethodId} {args : Array Value} {below : List Frame} {meth : Method} {c : Code} {T : State} {L L' : List Loc} {k k' n n' : Nat} (X : Stand p l e R s m args below meth c T L k n) (hl : L = L') (hk : k = k') (hn : n = n') : Stand p l e R s m args below meth c T L' k' n' := by
  subst hl hk hn
  exact X
abbrev own_m0 : MethodName := ⟨"com/example/dongl/dongl/server/ClientRefusals", "code", "(Lcom/example/dongl/dongl/core/ErrorCode;)Lcom/example/dongl/dongl/core/ErrorCode;"⟩
abbrev own_m1 : MethodName := ⟨"java/lang/Enum", "ordinal", "()I"⟩
abbrev own_m2 : MethodName := ⟨"com/example/dongl/dongl/core/ErrorCode", "ordinal", "()I"⟩
/-- what a body that writes nothing leaves: its value, no place written, the heap as it was -/
def PQ (w : Option Value) (h0 : Heap) (n0 : Nat) (v : Option Value) (h : Heap) (L : List Loc) : Prop := v = w ∧ Fr n0 L ∧ h = h0
def LQ (n0 : Nat) (v : Option Value) (h : Heap) (L : List Loc) : Prop := v = some (.int (1 : Int32)) ∧ Fr n0 L ∧ True
theorem own_pd0 : parseMethodDescriptor "()I" = some ⟨[], some .int⟩ := by decide +kernel
theorem own_pd1 : parseMethodDescriptor "(Lcom/example/dongl/dongl/core/ErrorCode;)Lcom/example/dongl/dongl/core/ErrorCode;" = some ⟨[(.object "com/example/dongl/dongl/core/ErrorCode")], some (.object "com/example/dongl/dongl/core/ErrorCode")⟩ := by decide +kernel
theorem own_k (p : Int32) : ∃ n, n < 22 ∧ ((p &&& (2147483647 : Int32)) % (22 : Int32)) = Int32.ofNat n := by
  have q0 := c_and p 2147483647 (by decide)
  have q := (c_irem (p &&& (2147483647 : Int32)) (22 : Int32) 22 rfl).1 q0.1
  refine ⟨((p &&& (2147483647 : Int32)).toInt % 22).toNat, by omega, ?_⟩
  rw [← Int32.toInt_inj, q, Int32.toInt_ofNat_small (by omega)]
  omega
theorem own_eqv {s : State} {args : Array Value} {t u : Term} {w : Value} (hu : u.eval args s none [] s = some w) (h : (Cond.eq t u).value args s none s [] = some true) (hk : (match w with | .retAddr _ => false | .float _ => false | .double _ => false | _ => true) = true := by rfl) : t.eval args s none [] s = some w := by
  obtain ⟨x, y, e1, e2, -, -⟩ := cmp_v (Or.inl h)
  cases hu.symm.trans e2
  rw [e1]
  simp only [Cond.value, e1, hu] at h
  cases x <;> cases w <;> simp at h hk ⊢ <;> exact h
theorem own_fld {s : State} {args : Array Value} {t : Term} {C n d : String} {a : Addr} {v : Value} (ht : t.eval args s none [] s = some (.ref a)) (h : (Term.field t C n d).eval args s none [] s = some v) : Fld s s.heap a C n d v := Fld.start ((fld_at ht).symm.trans h)
theorem own_len {s : State} {args : Array Value} {t : Term} {ty : FieldType} {a : Addr} {n : Int32} (ht : t.eval args s none [] s = some (.ref a)) (ha : (Cond.arrayOf t ty).value args s none s [] = some true) (hl : (Cond.eq (.length t) (.int n)).value args s none s [] = some true) (hn : ¬ n < 0) :
    ∃ c : Cell, Arr s s.heap a c ty ∧ c.slots.size < 2 ^ 31 ∧ c.slots.size.toInt32 = n := by
  obtain ⟨c, A⟩ := Arr.start ht ha
  have e := own_eqv (Term.int_eval n) hl
  have A2 := A.fin (Vm.Alike.refl _)
  obtain ⟨x, c2, e1, e2, e3⟩ := Term.length_spec e
  cases ht.symm.trans e1
  cases A2.symm.trans e2
  have h31 := SBG.length_lt ht A2 e
  refine ⟨c, A, h31, ?_⟩
  have := len_f ht A2 h31
  rw [e] at this
  simpa using (Option.some.inj this).symm
theorem own_elem {s : State} {args : Array Value} {t : Term} {ty : FieldType} {a : Addr} {c : Cell} {j : Int32} {v : Value} (ht : t.eval args s none [] s = some (.ref a)) (A : Arr s s.heap a c ty) (h : (Term.elem t (.int j)).eval args s none [] s = some v) : c.slots[j.toNatClampNeg]? = some v := (elem_in h ht (Term.int_eval j) A.1).2
theorem own_all0 {s : State} {args : Array Value} {t : Term} {ty : FieldType} {a : Addr} {c : Cell} {k n : Int32} (ht : ∀ idx, t.eval args s none idx s = some (.ref a)) (A : Arr s s.heap a c ty) (h31 : c.slots.size < 2 ^ 31) (hn : c.slots.size.toInt32 = n)
    (h : (Cond.all t (.or (.lt (.index 0) (.int k)) (.eq (.elem t (.index 0)) (.int 0)))).value args s none s [] = some true) (j : Nat) (hj : j < n.toNatClampNeg) (hk : ¬ j.toInt32 < k) : c.slots[j]? = some (.int 0) := by
  have A2 := A.fin (Vm.Alike.refl _)
  have hsz : n.toNatClampNeg = c.slots.size := by rw [← hn]; simp only [Int32.toNatClampNeg, len_toInt h31]; rfl
  have hj2 : j < c.slots.size := hsz ▸ hj
  have q := Cond.all_elim (ht []) A2 h j hj2
  have e1 : (Term.index 0).eval args s none [j] s = some (.int j.toInt32) := rfl
  have l1 : (Cond.lt (.index 0) (.int k)).value args s none s [j] = some false := by
    simp [Cond.value, e1, Term.int_eval, hk]
  have q2 : (Cond.eq (.elem t (.index 0)) (.int 0)).value args s none s [j] = some true := by
    have q3 : (match (Cond.lt (.index 0) (.int k)).value args s none s [j] with | some false => (Cond.eq (.elem t (.index 0)) (.int 0)).value args s none s [j] | x => x) = some true := q
    rw [l1] at q3
    exact q3
  obtain ⟨x, y, e2, e3, -, -⟩ := cmp_v (Or.inl q2)
  cases (Term.int_eval (args := args) (first := s) (o := none) (idx := [j]) (s := s) 0).symm.trans e3
  have e4 : (Term.elem t (.index 0)).eval args s none [j] s = some (.int 0) := by
    simp only [Cond.value, e2, e3] at q2
    rw [e2]; cases x <;> simp at q2 ⊢; exact q2
  have e5 := elem_in e4 (ht [j]) e1 A.1
  have e6 : (Nat.toInt32 j).toNatClampNeg = j := by simp only [Int32.toNatClampNeg, len_toInt (Nat.lt_trans hj2 h31)]; rfl
  rw [e6] at e5
  exact e5.2
theorem own_csne {s : State} {args : Array Value} {t : Term} {v : Int32} (e : t.eval args s none [] s = some (.int v)) (h : (Cond.not (.eq t (.int 0))).value args s none s [] = some true) : ¬ (v = (0 : Int32)) := by
  have q := not_v h
  intro hv
  subst hv
  have q2 := Cond.eq_ints e (Term.int_eval (args := args) (first := s) (o := none) (idx := []) (s := s) 0)
  rw [q2] at q
  simp at q
theorem own_orref {s : State} {args : Array Value} {C f d : String} (h : (Cond.isRef (.static C f d)).value args s none s [] = some true) (hi : (Cond.initializedFor C f d).before args s = true ∨ ((Cond.initialized C).before args s = true ∧ (Cond.laysStatic C f d).before args s = true)) : (Sta s s.heap C f d .null) ∨ (∃ a, Sta s s.heap C f d (.ref a)) := by
  obtain ⟨x, e, hr⟩ := isR_v h
  rcases ref_cases hr with rfl | ⟨a, rfl⟩
  · exact Or.inl (Sta.start e hi)
  · exact Or.inr ⟨a, Sta.start e hi⟩
def own_St (Z : State) (A : Nat → Addr) (K : Nat → ClassId) : Prop := ((Sta Z Z.heap "com/example/dongl/dongl/core/ErrorCode" "UNKNOWN_ERROR" "Lcom/example/dongl/dongl/core/ErrorCode;" (.ref (A 0))) ∧ (Exa Z Z.heap (A 0) "com/example/dongl/dongl/core/ErrorCode") ∧ (Sta Z Z.heap "com/example/dongl/dongl/core/ErrorCode" "NO_USER_ID" "Lcom/example/dongl/dongl/core/ErrorCode;" (.ref (A 1))) ∧ (Exa Z Z.heap (A 1) "com/example/dongl/dongl/core/ErrorCode") ∧ (Sta Z Z.heap "com/example/dongl/dongl/core/ErrorCode" "NO_APPLICATION_ID" "Lcom/example/dongl/dongl/core/ErrorCode;" (.ref (A 2))) ∧ (Exa Z Z.heap (A 2) "com/example/dongl/dongl/core/ErrorCode") ∧ (Sta Z Z.heap "com/example/dongl/dongl/core/ErrorCode" "INVALID_INPUT_FORMAT" "Lcom/example/dongl/dongl/core/ErrorCode;" (.ref (A 3))) ∧ (Exa Z Z.heap (A 3) "com/example/dongl/dongl/core/ErrorCode") ∧ True) ∧ ((Sta Z Z.heap "com/example/dongl/dongl/core/ErrorCode" "APPLICATION_NOT_FOUND" "Lcom/example/dongl/dongl/core/ErrorCode;" (.ref (A 4))) ∧ (Exa Z Z.heap (A 4) "com/example/dongl/dongl/core/ErrorCode") ∧ (Sta Z Z.heap "com/example/dongl/dongl/core/ErrorCode" "APPLICATION_VERSION_NOT_FOUND" "Lcom/example/dongl/dongl/core/ErrorCode;" (.ref (A 5))) ∧ (Exa Z Z.heap (A 5) "com/example/dongl/dongl/core/ErrorCode") ∧ (Sta Z Z.heap "com/example/dongl/dongl/core/ErrorCode" "APPLICATION_ALREADY_EXISTS" "Lcom/example/dongl/dongl/core/ErrorCode;" (.ref (A 6))) ∧ (Exa Z Z.heap (A 6) "com/example/dongl/dongl/core/ErrorCode") ∧ (Sta Z Z.heap "com/example/dongl/dongl/core/ErrorCode" "APPLICATION_CREDENTIALS_NOT_UNIQUE" "Lcom/example/dongl/dongl/core/ErrorCode;" (.ref (A 7))) ∧ (Exa Z Z.heap (A 7) "com/example/dongl/dongl/core/ErrorCode") ∧ True) ∧ ((Sta Z Z.heap "com/example/dongl/dongl/core/ErrorCode" "INVALID_KEY" "Lcom/example/dongl/dongl/core/ErrorCode;" (.ref (A 8))) ∧ (Exa Z Z.heap (A 8) "com/example/dongl/dongl/core/ErrorCode") ∧ (Sta Z Z.heap "com/example/dongl/dongl/core/ErrorCode" "ACTIVATION_NOT_FOUND" "Lcom/example/dongl/dongl/core/ErrorCode;" (.ref (A 9))) ∧ (Exa Z Z.heap (A 9) "com/example/dongl/dongl/core/ErrorCode") ∧ (Sta Z Z.heap "com/example/dongl/dongl/core/ErrorCode" "ACTIVATION_ALREADY_EXISTS" "Lcom/example/dongl/dongl/core/ErrorCode;" (.ref (A 10))) ∧ (Exa Z Z.heap (A 10) "com/example/dongl/dongl/core/ErrorCode") ∧ (Sta Z Z.heap "com/example/dongl/dongl/core/ErrorCode" "ACTIVATION_INCORRECT_STATE" "Lcom/example/dongl/dongl/core/ErrorCode;" (.ref (A 11))) ∧ (Exa Z Z.heap (A 11) "com/example/dongl/dongl/core/ErrorCode") ∧ True) ∧ ((Sta Z Z.heap "com/example/dongl/dongl/core/ErrorCode" "INVALID_REQUEST" "Lcom/example/dongl/dongl/core/ErrorCode;" (.ref (A 12))) ∧ (Exa Z Z.heap (A 12) "com/example/dongl/dongl/core/ErrorCode") ∧ (Sta Z Z.heap "com/example/dongl/dongl/core/ErrorCode" "INVALID_ACTIVATION_CODE" "Lcom/example/dongl/dongl/core/ErrorCode;" (.ref (A 13))) ∧ (Exa Z Z.heap (A 13) "com/example/dongl/dongl/core/ErrorCode") ∧ (Sta Z Z.heap "com/example/dongl/dongl/core/ErrorCode" "APPLICATION_VERSION_NOT_SUPPORTED" "Lcom/example/dongl/dongl/core/ErrorCode;" (.ref (A 14))) ∧ (Exa Z Z.heap (A 14) "com/example/dongl/dongl/core/ErrorCode") ∧ (Sta Z Z.heap "com/example/dongl/dongl/core/ErrorCode" "DECRYPTION_FAILED" "Lcom/example/dongl/dongl/core/ErrorCode;" (.ref (A 15))) ∧ (Exa Z Z.heap (A 15) "com/example/dongl/dongl/core/ErrorCode") ∧ True) ∧ ((Sta Z Z.heap "com/example/dongl/dongl/core/ErrorCode" "INVALID_OTP" "Lcom/example/dongl/dongl/core/ErrorCode;" (.ref (A 16))) ∧ (Exa Z Z.heap (A 16) "com/example/dongl/dongl/core/ErrorCode") ∧ (Sta Z Z.heap "com/example/dongl/dongl/core/ErrorCode" "INTEGRATION_AUTHENTICATION" "Lcom/example/dongl/dongl/core/ErrorCode;" (.ref (A 17))) ∧ (Exa Z Z.heap (A 17) "com/example/dongl/dongl/core/ErrorCode") ∧ (Sta Z Z.heap "com/example/dongl/dongl/core/ErrorCode" "CLIENT_ENCRYPTION" "Lcom/example/dongl/dongl/core/ErrorCode;" (.ref (A 18))) ∧ (Exa Z Z.heap (A 18) "com/example/dongl/dongl/core/ErrorCode") ∧ (Sta Z Z.heap "com/example/dongl/dongl/core/ErrorCode" "CLIENT_ACTIVATION" "Lcom/example/dongl/dongl/core/ErrorCode;" (.ref (A 19))) ∧ (Exa Z Z.heap (A 19) "com/example/dongl/dongl/core/ErrorCode") ∧ True) ∧ ((Sta Z Z.heap "com/example/dongl/dongl/core/ErrorCode" "CLIENT_VALIDATION" "Lcom/example/dongl/dongl/core/ErrorCode;" (.ref (A 20))) ∧ (Exa Z Z.heap (A 20) "com/example/dongl/dongl/core/ErrorCode") ∧ (Sta Z Z.heap "com/example/dongl/dongl/core/ErrorCode" "CLIENT_AUTHENTICATION" "Lcom/example/dongl/dongl/core/ErrorCode;" (.ref (A 21))) ∧ (Exa Z Z.heap (A 21) "com/example/dongl/dongl/core/ErrorCode") ∧ (Sta Z Z.heap "com/example/dongl/dongl/server/ClientRefusals$1" "$SwitchMap$com$example$dongl$dongl$core$ErrorCode" "[I" (.ref (A 22))) ∧ (Arv Z Z.heap (A 22) (K 0) .int (22 : Int32) [(.int (0 : Int32)), (.int (0 : Int32)), (.int (0 : Int32)), (.int (3 : Int32)), (.int (0 : Int32)), (.int (8 : Int32)), (.int (0 : Int32)), (.int (0 : Int32)), (.int (4 : Int32)), (.int (5 : Int32)), (.int (0 : Int32)), (.int (6 : Int32)), (.int (2 : Int32)), (.int (7 : Int32)), (.int (9 : Int32)), (.int (1 : Int32)), (.int (10 : Int32)), (.int (0 : Int32)), (.int (0 : Int32)), (.int (0 : Int32)), (.int (0 : Int32)), (.int (0 : Int32))] (.int (0 : Int32))) ∧ (Fld Z Z.heap (A 0) "java/lang/Enum" "ordinal" "I" (.int (0 : Int32))) ∧ (Fld Z Z.heap (A 3) "java/lang/Enum" "ordinal" "I" (.int (3 : Int32))) ∧ True) ∧ ((Fld Z Z.heap (A 20) "java/lang/Enum" "ordinal" "I" (.int (20 : Int32))) ∧ (Fld Z Z.heap (A 7) "java/lang/Enum" "ordinal" "I" (.int (7 : Int32))) ∧ (Fld Z Z.heap (A 8) "java/lang/Enum" "ordinal" "I" (.int (8 : Int32))) ∧ (Fld Z Z.heap (A 2) "java/lang/Enum" "ordinal" "I" (.int (2 : Int32))) ∧ (Fld Z Z.heap (A 11) "java/lang/Enum" "ordinal" "I" (.int (11 : Int32))) ∧ (Fld Z Z.heap (A 19) "java/lang/Enum" "ordinal" "I" (.int (19 : Int32))) ∧ (Fld Z Z.heap (A 10) "java/lang/Enum" "ordinal" "I" (.int (10 : Int32))) ∧ (Fld Z Z.heap (A 1) "java/lang/Enum" "ordinal" "I" (.int (1 : Int32))) ∧ True) ∧ ((Fld Z Z.heap (A 9) "java/lang/Enum" "ordinal" "I" (.int (9 : Int32))) ∧ (Fld Z Z.heap (A 5) "java/lang/Enum" "ordinal" "I" (.int (5 : Int32))) ∧ (Fld Z Z.heap (A 16) "java/lang/Enum" "ordinal" "I" (.int (16 : Int32))) ∧ (Fld Z Z.heap (A 6) "java/lang/Enum" "ordinal" "I" (.int (6 : Int32))) ∧ (Fld Z Z.heap (A 18) "java/lang/Enum" "ordinal" "I" (.int (18 : Int32))) ∧ (Fld Z Z.heap (A 15) "java/lang/Enum" "ordinal" "I" (.int (15 : Int32))) ∧ (Fld Z Z.heap (A 4) "java/lang/Enum" "ordinal" "I" (.int (4 : Int32))) ∧ (Fld Z Z.heap (A 21) "java/lang/Enum" "ordinal" "I" (.int (21 : Int32))) ∧ True) ∧ ((Fld Z Z.heap (A 14) "java/lang/Enum" "ordinal" "I" (.int (14 : Int32))) ∧ (Fld Z Z.heap (A 12) "java/lang/Enum" "ordinal" "I" (.int (12 : Int32))) ∧ (Fld Z Z.heap (A 13) "java/lang/Enum" "ordinal" "I" (.int (13 : Int32))) ∧ (Fld Z Z.heap (A 17) "java/lang/Enum" "ordinal" "I" (.int (17 : Int32))) ∧ True) ∧ True
theorem own_d_jdk_37_method_2_code_0 : decode jdk_37_method_2_code 0 = .ok (.aload_n 0, 1) := by decide +kernel
theorem own_d_jdk_37_method_2_code_1 : decode jdk_37_method_2_code 1 = .ok (.getfield 7, 3) := by decide +kernel
theorem own_d_jdk_37_method_2_code_4 : decode jdk_37_method_2_code 4 = .ok (.ireturn, 1) := by decide +kernel
theorem own_pn0 : plainName "java/lang/Enum" = true := by first | (simp [plainName, overriddenIn]; done) | decide +kernel
theorem own_ef_rm2 (m : MethodId) (p1 : Int32) (A : Nat → Addr) (K : Nat → ClassId)  : entryFrame m #[(.ref (A 0))] 1 = mkF m 0 #[.val (.ref (A 0))] [] := by first | (simp [entryFrame, mkF, argsToLocals, Value.category, maxLocals]; done) | rfl
set_option maxRecDepth 65536 in
set_option maxHeartbeats 40000000 in
theorem rm2 (l : Launch) (Z : State) (a0 : Array Value) (hw : ∀ d ∈ tables_1, d.before a0 Z = true) (ws : List Jvm.Cond) (h0 : Heap) (n0 : Nat) (p1 : Int32) (A : Nat → Addr) (K : Nat → ClassId)  (EN : own_St Z A K) (OL0 : Old Z n0 h0) :
    MetFree l own_m1 (head1 (Jvm.Cond.code own_m1 jdk_37_method_2_code 1 (some .int) :: ws) ({ frames := 0, cells := 0, slots := 0, locals := 0 } : Room)) (fun a U => a = #[(.ref (A 0))] ∧ Z.Warmed39 U.vm ∧ U.heap = h0) (fun _ _ _ _ _ => True) (fun _ U o U' => ∃ v L, o = .returned v ∧ (PQ (some (.int (0 : Int32))) h0 n0) v U'.heap L ∧ FrameEnd U o U' L ({ frames := 0, cells := 0, slots := 0, locals := 0 } : Room).cells ({ frames := 0, cells := 0, slots := 0, locals := 0 } : Room).slots) := by
  refine MetFree.of_bodySF (plainFor_of_name own_pn0) hisR ?_
  intro p e s m args below meth c s₁ Bd hml0 hP hK
  obtain ⟨rfl, hZ, hh⟩ := hP
  have hx := Bd.exec
  have hby := Bd.bytes
  have hml : c.maxLocals = 1 := hml0
  have hown : s.vm.findClass "java/lang/Enum" = some m.cls := findClass_of_methodNamed Bd.named
  have hnm := (name_of_methodNamed Bd.named Bd.method).1
  have X0 : Stand p l e ({ frames := 0, cells := 0, slots := 0, locals := 0 } : Room) s m #[(.ref (A 0))] below meth c s₁ [] 0 0 := Stand.of_body Bd
  have e0 : s₁.heap = h0 := by rw [← hh, Bd.state]; rfl
  have N0 := Fr.nil n0
  have pre0 : ∀ t, Steps p.tables e below (s₁.setTop (mkF m 0 #[.val (.ref (A 0))] [])) t → Steps p.tables e below (s₁.setTop (entryFrame m #[(.ref (A 0))] 1)) t := fun t k => castTop (own_ef_rm2 m p1 A K ) k
  have KK0 : Keep h0 h0 [] := Keep.refl _ _
  obtain ⟨T140, X140, e140, st140⟩ := getF X0 hx hZ hown (host := "") (Or.inl (hw _ (List.mem_of_getElem? (i := 63) rfl))) Via.refl e0 (EN.2.2.2.2.2.1.2.2.2.2.2.2.1.ext OL0.2) (g := (mkF m 1 #[.val (.ref (A 0))] [(.ref (A 0))])) rfl rfl (hb hby own_d_jdk_37_method_2_code_1)
  obtain ⟨fs, hr, hrun, hended, hW, hsame⟩ := X140.leave (v := some (.int (0 : Int32))) (fun h => by rw [Bd.returns] at h; cases h)
  refine ⟨_, _, pre0 _ ?_, hrun, hended, _, _, rfl, ?_, ⟨_, rfl⟩, hW, hsame.mono (by decide) (by decide)⟩
  · show Steps p.tables e below (s₁.setTop (mkF m 0 #[.val (.ref (A 0))] [])) _
    refine XS.aloadN X0.here hx rfl (hb hby own_d_jdk_37_method_2_code_0) rfl rfl ?_
    show Steps p.tables e below (s₁.setTop (mkF m 1 #[.val (.ref (A 0))] [(.ref (A 0))])) _
    refine st140 _ ?_
    show Steps p.tables e below (T140.setTop (mkF m 4 #[.val (.ref (A 0))] [(.int (0 : Int32))])) _
    exact retI X140 hx Bd.returns (hb hby own_d_jdk_37_method_2_code_4) hr
  · show PQ (some (.int (0 : Int32))) h0 n0 _ T140.heap _
    rw [e140]
    exact ⟨rfl, N0, rfl⟩
theorem own_d_prog_32_method_2_code_0 : decode prog_32_method_2_code 0 = .ok (.getstatic 7, 3) := by decide +kernel
theorem own_d_prog_32_method_2_code_3 : decode prog_32_method_2_code 3 = .ok (.aload_n 0, 1) := by decide +kernel
theorem own_d_prog_32_method_2_code_4 : decode prog_32_method_2_code 4 = .ok (.invokevirtual 13, 3) := by decide +kernel
theorem own_d_prog_32_method_2_code_7 : decode prog_32_method_2_code 7 = .ok (.iaload, 1) := by decide +kernel
theorem own_d_prog_32_method_2_code_8 : decode prog_32_method_2_code 8 = .ok (.tableswitch 74 1 10 #[56, 62, 62, 62, 68, 68, 68, 68, 68, 68], 56) := by decide +kernel
theorem own_d_prog_32_method_2_code_82 : decode prog_32_method_2_code 82 = .ok (.aload_n 0, 1) := by decide +kernel
theorem own_d_prog_32_method_2_code_83 : decode prog_32_method_2_code 83 = .ok (.astore_n 1, 1) := by decide +kernel
theorem own_d_prog_32_method_2_code_84 : decode prog_32_method_2_code 84 = .ok (.aload_n 1, 1) := by decide +kernel
theorem own_d_prog_32_method_2_code_85 : decode prog_32_method_2_code 85 = .ok (.areturn, 1) := by decide +kernel
theorem own_pn1 : plainName "com/example/dongl/dongl/server/ClientRefusals" = true := by first | (simp [plainName, overriddenIn]; done) | decide +kernel
theorem own_ef_rm1 (m : MethodId) (p1 : Int32) (A : Nat → Addr) (K : Nat → ClassId)  : entryFrame m #[(.ref (A 0))] 2 = mkF m 0 #[.val (.ref (A 0)), .unset] [] := by first | (simp [entryFrame, mkF, argsToLocals, Value.category, maxLocals]; done) | rfl
set_option maxRecDepth 65536 in
set_option maxHeartbeats 40000000 in
theorem rm1 (l : Launch) (Z : State) (a0 : Array Value) (hw : ∀ d ∈ tables_1, d.before a0 Z = true) (ws : List Jvm.Cond) (h0 : Heap) (n0 : Nat) (p1 : Int32) (A : Nat → Addr) (K : Nat → ClassId)  (EN : own_St Z A K) (OL0 : Old Z n0 h0) :
    MetFree l own_m0 (head1 (Jvm.Cond.code own_m0 prog_32_method_2_code 2 (some (.object "com/example/dongl/dongl/core/ErrorCode")) :: ws) ({ frames := 1, cells := 0, slots := 0, locals := 13 } : Room)) (fun a U => a = #[(.ref (A 0))] ∧ Z.Warmed39 U.vm ∧ U.heap = h0) (fun _ _ _ _ _ => True) (fun _ U o U' => ∃ v L, o = .returned v ∧ (PQ (some (.ref (A 0))) h0 n0) v U'.heap L ∧ FrameEnd U o U' L ({ frames := 1, cells := 0, slots := 0, locals := 13 } : Room).cells ({ frames := 1, cells := 0, slots := 0, locals := 13 } : Room).slots) := by
  refine MetFree.of_bodySF (plainFor_of_name own_pn1) hisR ?_
  intro p e s m args below meth c s₁ Bd hml0 hP hK
  obtain ⟨rfl, hZ, hh⟩ := hP
  have hx := Bd.exec
  have hby := Bd.bytes
  have hml : c.maxLocals = 2 := hml0
  have hown : s.vm.findClass "com/example/dongl/dongl/server/ClientRefusals" = some m.cls := findClass_of_methodNamed Bd.named
  have hnm := (name_of_methodNamed Bd.named Bd.method).1
  have X0 : Stand p l e ({ frames := 1, cells := 0, slots := 0, locals := 13 } : Room) s m #[(.ref (A 0))] below meth c s₁ [] 0 0 := Stand.of_body Bd
  have e0 : s₁.heap = h0 := by rw [← hh, Bd.state]; rfl
  have N0 := Fr.nil n0
  have pre0 : ∀ t, Steps p.tables e below (s₁.setTop (mkF m 0 #[.val (.ref (A 0)), .unset] [])) t → Steps p.tables e below (s₁.setTop (entryFrame m #[(.ref (A 0))] 2)) t := fun t k => castTop (own_ef_rm1 m p1 A K ) k
  have KK0 : Keep h0 h0 [] := Keep.refl _ _
  obtain ⟨T139, X139, e139, st139⟩ := getS2 X0 hx hZ hown (host := "") (Or.inl (hw _ (List.mem_of_getElem? (i := 53) rfl))) Via.refl e0 (EN.2.2.2.2.2.1.2.2.2.2.1.ext OL0.2) (g := (mkF m 0 #[.val (.ref (A 0)), .unset] [])) rfl (hb hby own_d_prog_32_method_2_code_0)
  obtain ⟨cq141, kq141, q141a, q141b, q141c⟩ := isOf hZ e139 (EN.1.2.1.ext OL0.2)
  obtain ⟨_, _, ⟨T141, L141, k141, n141⟩, -, X141, ⟨Lc141, hQ141, l141, y141, z141⟩, st141⟩ := X139.virtualBackUp hx (x := own_m2) (y := own_m1) (owner := "java/lang/Enum") hown (mvT hZ (hw _ (List.mem_of_getElem? (i := 56) rfl))) (mvT hZ (hw _ (List.mem_of_getElem? (i := 57) rfl))) (mvT hZ (hw _ (List.mem_of_getElem? (i := 58) rfl))) (by decide) (mvT hZ (hw _ (List.mem_of_getElem? (i := 60) rfl))) (mvT hZ (hw _ (List.mem_of_getElem? (i := 59) rfl))) (backOf (W := 1) (rm2 l Z a0 hw [] h0 n0 p1 A K EN OL0) hZ (hw _ (List.mem_of_getElem? (i := 62) rfl)) (hw _ (List.mem_of_getElem? (i := 61) rfl)) (by decide) (by decide)) q141a q141c (g := (mkF m 4 #[.val (.ref (A 0)), .unset] [(.ref (A 0)), (.ref (A 22))])) rfl (by rw [hml]; rfl) (Steps.refl _) (argsL := []) (rest := [(.ref (A 22))]) (lenOf own_pd0 rfl) rfl (by show 2 * 0 + _ ≤ _; exact Nat.le_of_eq rfl) (hb hby own_d_prog_32_method_2_code_4) (fun _ _ => ⟨rfl, e139, (by decide : 0 + 0 ≤ _), (by decide : 0 + 0 ≤ _)⟩)
  dsimp only [Pt.U, Pt.locs, Pt.cells, Pt.slots] at X141 l141 y141 z141 st141 hQ141
  replace X141 := own_sub X141 l141 y141 z141
  obtain ⟨rfl, N141q, e141⟩ := hQ141
  have N141 := Fr.app N0 N141q
  obtain ⟨cl142, Ar142, q142, Sz142, Nn142, Hh142, Gg142⟩ := (id (EN.2.2.2.2.2.1.2.2.2.2.2.1.ext OL0.2))
  have hin142 : ¬ ((0 : Int32) < 0 ∨ cl142.slots.size ≤ ((0 : Int32)).toNatClampNeg) := inb_of Sz142 ⟨by decide, by decide⟩
  have hat142 : cl142.slots[((0 : Int32)).toNatClampNeg]? = some (.int (0 : Int32)) := Has.at Hh142 hin142 rfl
  obtain ⟨fs, hr, hrun, hended, hW, hsame⟩ := X141.leave (v := some (.ref (A 0))) (fun h => by rw [Bd.returns] at h; cases h)
  refine ⟨_, _, pre0 _ ?_, hrun, hended, _, _, rfl, ?_, ⟨_, rfl⟩, hW, hsame.mono (by decide) (by decide)⟩
  · show Steps p.tables e below (s₁.setTop (mkF m 0 #[.val (.ref (A 0)), .unset] [])) _
    refine st139 _ ?_
    show Steps p.tables e below (T139.setTop (mkF m 3 #[.val (.ref (A 0)), .unset] [(.ref (A 22))])) _
    refine XS.aloadN X139.here hx rfl (hb hby own_d_prog_32_method_2_code_3) rfl rfl ?_
    show Steps p.tables e below (T139.setTop (mkF m 4 #[.val (.ref (A 0)), .unset] [(.ref (A 0)), (.ref (A 22))])) _
    refine st141.trans ?_
    show Steps p.tables e below (T141.setTop (mkF m 7 #[.val (.ref (A 0)), .unset] [(.int (0 : Int32)), (.ref (A 22))])) _
    refine X141.iaload hx (j := (0 : Int32)) (v := (.int (0 : Int32))) (by rw [e141]; exact Ar142.1) (State.isArrayOf_alike hZ.alike Ar142.2.1) Ar142.2.2 hin142 hat142 (g := (mkF m 7 #[.val (.ref (A 0)), .unset] [(.int (0 : Int32)), (.ref (A 22))])) rfl rfl (hb hby own_d_prog_32_method_2_code_7) _ ?_
    show Steps p.tables e below (T141.setTop (mkF m 8 #[.val (.ref (A 0)), .unset] [(.int (0 : Int32))])) _
    refine XS.tswOut X141.here hx rfl (pc0 := 8) (pc' := 82) rfl (hb hby own_d_prog_32_method_2_code_8) rfl (by decide) (by decide) (by decide) ?_
    show Steps p.tables e below (T141.setTop (mkF m 82 #[.val (.ref (A 0)), .unset] [])) _
    refine XS.aloadN X141.here hx rfl (hb hby own_d_prog_32_method_2_code_82) rfl rfl ?_
    show Steps p.tables e below (T141.setTop (mkF m 83 #[.val (.ref (A 0)), .unset] [(.ref (A 0))])) _
    refine XS.astoreN X141.here hx rfl (hb hby own_d_prog_32_method_2_code_83) rfl rfl (l' := #[.val (.ref (A 0)), .val (.ref (A 0))]) rfl ?_
    show Steps p.tables e below (T141.setTop (mkF m 84 #[.val (.ref (A 0)), .val (.ref (A 0))] [])) _
    refine XS.aloadN X141.here hx rfl (hb hby own_d_prog_32_method_2_code_84) rfl rfl ?_
    show Steps p.tables e below (T141.setTop (mkF m 85 #[.val (.ref (A 0)), .val (.ref (A 0))] [(.ref (A 0))])) _
    exact retOut X141 hx Bd.returns rfl (Or.inr (Or.inr (Or.inr (Or.inr ⟨rfl, rfl, rfl⟩)))) (hb hby own_d_prog_32_method_2_code_85) hr
  · show PQ (some (.ref (A 0))) h0 n0 _ T141.heap _
    rw [e141]
    exact ⟨rfl, N141, rfl⟩
theorem own_ef_rm4 (m : MethodId) (p1 : Int32) (A : Nat → Addr) (K : Nat → ClassId)  : entryFrame m #[(.ref (A 1))] 1 = mkF m 0 #[.val (.ref (A 1))] [] := by first | (simp [entryFrame, mkF, argsToLocals, Value.category, maxLocals]; done) | rfl
set_option maxRecDepth 65536 in
set_option maxHeartbeats 40000000 in
theorem rm4 (l : Launch) (Z : State) (a0 : Array Value) (hw : ∀ d ∈ tables_1, d.before a0 Z = true) (ws : List Jvm.Cond) (h0 : Heap) (n0 : Nat) (p1 : Int32) (A : Nat → Addr) (K : Nat → ClassId)  (EN : own_St Z A K) (OL0 : Old Z n0 h0) :
    MetFree l own_m1 (head1 (Jvm.Cond.code own_m1 jdk_37_method_2_code 1 (some .int) :: ws) ({ frames := 0, cells := 0, slots := 0, locals := 0 } : Room)) (fun a U => a = #[(.ref (A 1))] ∧ Z.Warmed39 U.vm ∧ U.heap = h0) (fun _ _ _ _ _ => True) (fun _ U o U' => ∃ v L, o = .returned v ∧ (PQ (some (.int (1 : Int32))) h0 n0) v U'.heap L ∧ FrameEnd U o U' L ({ frames := 0, cells := 0, slots := 0, locals := 0 } : Room).cells ({ frames := 0, cells := 0, slots := 0, locals := 0 } : Room).slots) := by
  refine MetFree.of_bodySF (plainFor_of_name own_pn0) hisR ?_
  intro p e s m args below meth c s₁ Bd hml0 hP hK
  obtain ⟨rfl, hZ, hh⟩ := hP
  have hx := Bd.exec
  have hby := Bd.bytes
  have hml : c.maxLocals = 1 := hml0
  have hown : s.vm.findClass "java/lang/Enum" = some m.cls := findClass_of_methodNamed Bd.named
  have hnm := (name_of_methodNamed Bd.named Bd.method).1
  have X0 : Stand p l e ({ frames := 0, cells := 0, slots := 0, locals := 0 } : Room) s m #[(.ref (A 1))] below meth c s₁ [] 0 0 := Stand.of_body Bd
  have e0 : s₁.heap = h0 := by rw [← hh, Bd.state]; rfl
  have N0 := Fr.nil n0
  have pre0 : ∀ t, Steps p.tables e below (s₁.setTop (mkF m 0 #[.val (.ref (A 1))] [])) t → Steps p.tables e below (s₁.setTop (entryFrame m #[(.ref (A 1))] 1)) t := fun t k => castTop (own_ef_rm4 m p1 A K ) k
  have KK0 : Keep h0 h0 [] := Keep.refl _ _
  obtain ⟨T149, X149, e149, st149⟩ := getF X0 hx hZ hown (host := "") (Or.inl (hw _ (List.mem_of_getElem? (i := 63) rfl))) Via.refl e0 (EN.2.2.2.2.2.2.1.2.2.2.2.2.2.2.1.ext OL0.2) (g := (mkF m 1 #[.val (.ref (A 1))] [(.ref (A 1))])) rfl rfl (hb hby own_d_jdk_37_method_2_code_1)
  obtain ⟨fs, hr, hrun, hended, hW, hsame⟩ := X149.leave (v := some (.int (1 : Int32))) (fun h => by rw [Bd.returns] at h; cases h)
  refine ⟨_, _, pre0 _ ?_, hrun, hended, _, _, rfl, ?_, ⟨_, rfl⟩, hW, hsame.mono (by decide) (by decide)⟩
  · show Steps p.tables e below (s₁.setTop (mkF m 0 #[.val (.ref (A 1))] [])) _
    refine XS.aloadN X0.here hx rfl (hb hby own_d_jdk_37_method_2_code_0) rfl rfl ?_
    show Steps p.tables e below (s₁.setTop (mkF m 1 #[.val (.ref (A 1))] [(.ref (A 1))])) _
    refine st149 _ ?_
    show Steps p.tables e below (T149.setTop (mkF m 4 #[.val (.ref (A 1))] [(.int (1 : Int32))])) _
    exact retI X149 hx Bd.returns (hb hby own_d_jdk_37_method_2_code_4) hr
  · show PQ (some (.int (1 : Int32))) h0 n0 _ T149.heap _
    rw [e149]
    exact ⟨rfl, N0, rfl⟩
theorem own_ef_rm3 (m : MethodId) (p1 : Int32) (A : Nat → Addr) (K : Nat → ClassId)  : entryFrame m #[(.ref (A 1))] 2 = mkF m 0 #[.val (.ref (A 1)), .unset] [] := by first | (simp [entryFrame, mkF, argsToLocals, Value.category, maxLocals]; done) | rfl
set_option maxRecDepth 65536 in
set_option maxHeartbeats 40000000 in
theorem rm3 (l : Launch) (Z : State) (a0 : Array Value) (hw : ∀ d ∈ tables_1, d.before a0 Z = true) (ws : List Jvm.Cond) (h0 : Heap) (n0 : Nat) (p1 : Int32) (A : Nat → Addr) (K : Nat → ClassId)  (EN : own_St Z A K) (OL0 : Old Z n0 h0) :
    MetFree l own_m0 (head1 (Jvm.Cond.code own_m0 prog_32_method_2_code 2 (some (.object "com/example/dongl/dongl/core/ErrorCode")) :: ws) ({ frames := 1, cells := 0, slots := 0, locals := 13 } : Room)) (fun a U => a = #[(.ref (A 1))] ∧ Z.Warmed39 U.vm ∧ U.heap = h0) (fun _ _ _ _ _ => True) (fun _ U o U' => ∃ v L, o = .returned v ∧ (PQ (some (.ref (A 1))) h0 n0) v U'.heap L ∧ FrameEnd U o U' L ({ frames := 1, cells := 0, slots := 0, locals := 13 } : Room).cells ({ frames := 1, cells := 0, slots := 0, locals := 13 } : Room).slots) := by
  refine MetFree.of_bodySF (plainFor_of_name own_pn1) hisR ?_
  intro p e s m args below meth c s₁ Bd hml0 hP hK
  obtain ⟨rfl, hZ, hh⟩ := hP
  have hx := Bd.exec
  have hby := Bd.bytes
  have hml : c.maxLocals = 2 := hml0
  have hown : s.vm.findClass "com/example/dongl/dongl/server/ClientRefusals" = some m.cls := findClass_of_methodNamed Bd.named
  have hnm := (name_of_methodNamed Bd.named Bd.method).1
  have X0 : Stand p l e ({ frames := 1, cells := 0, slots := 0, locals := 13 } : Room) s m #[(.ref (A 1))] below meth c s₁ [] 0 0 := Stand.of_body Bd
  have e0 : s₁.heap = h0 := by rw [← hh, Bd.state]; rfl
  have N0 := Fr.nil n0
  have pre0 : ∀ t, Steps p.tables e below (s₁.setTop (mkF m 0 #[.val (.ref (A 1)), .unset] [])) t → Steps p.tables e below (s₁.setTop (entryFrame m #[(.ref (A 1))] 2)) t := fun t k => castTop (own_ef_rm3 m p1 A K ) k
  have KK0 : Keep h0 h0 [] := Keep.refl _ _
  obtain ⟨T148, X148, e148, st148⟩ := getS2 X0 hx hZ hown (host := "") (Or.inl (hw _ (List.mem_of_getElem? (i := 53) rfl))) Via.refl e0 (EN.2.2.2.2.2.1.2.2.2.2.1.ext OL0.2) (g := (mkF m 0 #[.val (.ref (A 1)), .unset] [])) rfl (hb hby own_d_prog_32_method_2_code_0)
  obtain ⟨cq150, kq150, q150a, q150b, q150c⟩ := isOf hZ e148 (EN.1.2.2.2.1.ext OL0.2)
  obtain ⟨_, _, ⟨T150, L150, k150, n150⟩, -, X150, ⟨Lc150, hQ150, l150, y150, z150⟩, st150⟩ := X148.virtualBackUp hx (x := own_m2) (y := own_m1) (owner := "java/lang/Enum") hown (mvT hZ (hw _ (List.mem_of_getElem? (i := 56) rfl))) (mvT hZ (hw _ (List.mem_of_getElem? (i := 57) rfl))) (mvT hZ (hw _ (List.mem_of_getElem? (i := 58) rfl))) (by decide) (mvT hZ (hw _ (List.mem_of_getElem? (i := 60) rfl))) (mvT hZ (hw _ (List.mem_of_getElem? (i := 59) rfl))) (backOf (W := 1) (rm4 l Z a0 hw [] h0 n0 p1 A K EN OL0) hZ (hw _ (List.mem_of_getElem? (i := 62) rfl)) (hw _ (List.mem_of_getElem? (i := 61) rfl)) (by decide) (by decide)) q150a q150c (g := (mkF m 4 #[.val (.ref (A 1)), .unset] [(.ref (A 1)), (.ref (A 22))])) rfl (by rw [hml]; rfl) (Steps.refl _) (argsL := []) (rest := [(.ref (A 22))]) (lenOf own_pd0 rfl) rfl (by show 2 * 0 + _ ≤ _; exact Nat.le_of_eq rfl) (hb hby own_d_prog_32_method_2_code_4) (fun _ _ => ⟨rfl, e148, (by decide : 0 + 0 ≤ _), (by decide : 0 + 0 ≤ _)⟩)
  dsimp only [Pt.U, Pt.locs, Pt.cells, Pt.slots] at X150 l150 y150 z150 st150 hQ150
  replace X150 := own_sub X150 l150 y150 z150
  obtain ⟨rfl, N150q, e150⟩ := hQ150
  have N150 := Fr.app N0 N150q
  obtain ⟨cl151, Ar151, q151, Sz151, Nn151, Hh151, Gg151⟩ := (id (EN.2.2.2.2.2.1.2.2.2.2.2.1.ext OL0.2))
  have hin151 : ¬ ((1 : Int32) < 0 ∨ cl151.slots.size ≤ ((1 : Int32)).toNatClampNeg) := inb_of Sz151 ⟨by decide, by decide⟩
  have hat151 : cl151.slots[((1 : Int32)).toNatClampNeg]? = some (.int (0 : Int32)) := Has.at Hh151 hin151 rfl
  obtain ⟨fs, hr, hrun, hended, hW, hsame⟩ := X150.leave (v := some (.ref (A 1))) (fun h => by rw [Bd.returns] at h; cases h)
  refine ⟨_, _, pre0 _ ?_, hrun, hended, _, _, rfl, ?_, ⟨_, rfl⟩, hW, hsame.mono (by decide) (by decide)⟩
  · show Steps p.tables e below (s₁.setTop (mkF m 0 #[.val (.ref (A 1)), .unset] [])) _
    refine st148 _ ?_
    show Steps p.tables e below (T148.setTop (mkF m 3 #[.val (.ref (A 1)), .unset] [(.ref (A 22))])) _
    refine XS.aloadN X148.here hx rfl (hb hby own_d_prog_32_method_2_code_3) rfl rfl ?_
    show Steps p.tables e below (T148.setTop (mkF m 4 #[.val (.ref (A 1)), .unset] [(.ref (A 1)), (.ref (A 22))])) _
    refine st150.trans ?_
    show Steps p.tables e below (T150.setTop (mkF m 7 #[.val (.ref (A 1)), .unset] [(.int (1 : Int32)), (.ref (A 22))])) _
    refine X150.iaload hx (j := (1 : Int32)) (v := (.int (0 : Int32))) (by rw [e150]; exact Ar151.1) (State.isArrayOf_alike hZ.alike Ar151.2.1) Ar151.2.2 hin151 hat151 (g := (mkF m 7 #[.val (.ref (A 1)), .unset] [(.int (1 : Int32)), (.ref (A 22))])) rfl rfl (hb hby own_d_prog_32_method_2_code_7) _ ?_
    show Steps p.tables e below (T150.setTop (mkF m 8 #[.val (.ref (A 1)), .unset] [(.int (0 : Int32))])) _
    refine XS.tswOut X150.here hx rfl (pc0 := 8) (pc' := 82) rfl (hb hby own_d_prog_32_method_2_code_8) rfl (by decide) (by decide) (by decide) ?_
    show Steps p.tables e below (T150.setTop (mkF m 82 #[.val (.ref (A 1)), .unset] [])) _
    refine XS.aloadN X150.here hx rfl (hb hby own_d_prog_32_method_2_code_82) rfl rfl ?_
    show Steps p.tables e below (T150.setTop (mkF m 83 #[.val (.ref (A 1)), .unset] [(.ref (A 1))])) _
    refine XS.astoreN X150.here hx rfl (hb hby own_d_prog_32_method_2_code_83) rfl rfl (l' := #[.val (.ref (A 1)), .val (.ref (A 1))]) rfl ?_
    show Steps p.tables e below (T150.setTop (mkF m 84 #[.val (.ref (A 1)), .val (.ref (A 1))] [])) _
    refine XS.aloadN X150.here hx rfl (hb hby own_d_prog_32_method_2_code_84) rfl rfl ?_
    show Steps p.tables e below (T150.setTop (mkF m 85 #[.val (.ref (A 1)), .val (.ref (A 1))] [(.ref (A 1))])) _
    exact retOut X150 hx Bd.returns rfl (Or.inr (Or.inr (Or.inr (Or.inr ⟨rfl, rfl, rfl⟩)))) (hb hby own_d_prog_32_method_2_code_85) hr
  · show PQ (some (.ref (A 1))) h0 n0 _ T150.heap _
    rw [e150]
    exact ⟨rfl, N150, rfl⟩
theorem own_ef_rm6 (m : MethodId) (p1 : Int32) (A : Nat → Addr) (K : Nat → ClassId)  : entryFrame m #[(.ref (A 2))] 1 = mkF m 0 #[.val (.ref (A 2))] [] := by first | (simp [entryFrame, mkF, argsToLocals, Value.category, maxLocals]; done) | rfl
set_option maxRecDepth 65536 in
set_option maxHeartbeats 40000000 in
theorem rm6 (l : Launch) (Z : State) (a0 : Array Value) (hw : ∀ d ∈ tables_1, d.before a0 Z = true) (ws : List Jvm.Cond) (h0 : Heap) (n0 : Nat) (p1 : Int32) (A : Nat → Addr) (K : Nat → ClassId)  (EN : own_St Z A K) (OL0 : Old Z n0 h0) :
    MetFree l own_m1 (head1 (Jvm.Cond.code own_m1 jdk_37_method_2_code 1 (some .int) :: ws) ({ frames := 0, cells := 0, slots := 0, locals := 0 } : Room)) (fun a U => a = #[(.ref (A 2))] ∧ Z.Warmed39 U.vm ∧ U.heap = h0) (fun _ _ _ _ _ => True) (fun _ U o U' => ∃ v L, o = .returned v ∧ (PQ (some (.int (2 : Int32))) h0 n0) v U'.heap L ∧ FrameEnd U o U' L ({ frames := 0, cells := 0, slots := 0, locals := 0 } : Room).cells ({ frames := 0, cells := 0, slots := 0, locals := 0 } : Room).slots) := by
  refine MetFree.of_bodySF (plainFor_of_name own_pn0) hisR ?_
  intro p e s m args below meth c s₁ Bd hml0 hP hK
  obtain ⟨rfl, hZ, hh⟩ := hP
  have hx := Bd.exec
  have hby := Bd.bytes
  have hml : c.maxLocals = 1 := hml0
  have hown : s.vm.findClass "java/lang/Enum" = some m.cls := findClass_of_methodNamed Bd.named
  have hnm := (name_of_methodNamed Bd.named Bd.method).1
  have X0 : Stand p l e ({ frames := 0, cells := 0, slots := 0, locals := 0 } : Room) s m #[(.ref (A 2))] below meth c s₁ [] 0 0 := Stand.of_body Bd
  have e0 : s₁.heap = h0 := by rw [← hh, Bd.state]; rfl
  have N0 := Fr.nil n0
  have pre0 : ∀ t, Steps p.tables e below (s₁.setTop (mkF m 0 #[.val (.ref (A 2))] [])) t → Steps p.tables e below (s₁.setTop (entryFrame m #[(.ref (A 2))] 1)) t := fun t k => castTop (own_ef_rm6 m p1 A K ) k
  have KK0 : Keep h0 h0 [] := Keep.refl _ _
  obtain ⟨T158, X158, e158, st158⟩ := getF X0 hx hZ hown (host := "") (Or.inl (hw _ (List.mem_of_getElem? (i := 63) rfl))) Via.refl e0 (EN.2.2.2.2.2.2.1.2.2.2.1.ext OL0.2) (g := (mkF m 1 #[.val (.ref (A 2))] [(.ref (A 2))])) rfl rfl (hb hby own_d_jdk_37_method_2_code_1)
  obtain ⟨fs, hr, hrun, hended, hW, hsame⟩ := X158.leave (v := some (.int (2 : Int32))) (fun h => by rw [Bd.returns] at h; cases h)
  refine ⟨_, _, pre0 _ ?_, hrun, hended, _, _, rfl, ?_, ⟨_, rfl⟩, hW, hsame.mono (by decide) (by decide)⟩
  · show Steps p.tables e below (s₁.setTop (mkF m 0 #[.val (.ref (A 2))] [])) _
    refine XS.aloadN X0.here hx rfl (hb hby own_d_jdk_37_method_2_code_0) rfl rfl ?_
    show Steps p.tables e below (s₁.setTop (mkF m 1 #[.val (.ref (A 2))] [(.ref (A 2))])) _
    refine st158 _ ?_
    show Steps p.tables e below (T158.setTop (mkF m 4 #[.val (.ref (A 2))] [(.int (2 : Int32))])) _
    exact retI X158 hx Bd.returns (hb hby own_d_jdk_37_method_2_code_4) hr
  · show PQ (some (.int (2 : Int32))) h0 n0 _ T158.heap _
    rw [e158]
    exact ⟨rfl, N0, rfl⟩
theorem own_ef_rm5 (m : MethodId) (p1 : Int32) (A : Nat → Addr) (K : Nat → ClassId)  : entryFrame m #[(.ref (A 2))] 2 = mkF m 0 #[.val (.ref (A 2)), .unset] [] := by first | (simp [entryFrame, mkF, argsToLocals, Value.category, maxLocals]; done) | rfl
set_option maxRecDepth 65536 in
set_option maxHeartbeats 40000000 in
theorem rm5 (l : Launch) (Z : State) (a0 : Array Value) (hw : ∀ d ∈ tables_1, d.before a0 Z = true) (ws : List Jvm.Cond) (h0 : Heap) (n0 : Nat) (p1 : Int32) (A : Nat → Addr) (K : Nat → ClassId)  (EN : own_St Z A K) (OL0 : Old Z n0 h0) :
    MetFree l own_m0 (head1 (Jvm.Cond.code own_m0 prog_32_method_2_code 2 (some (.object "com/example/dongl/dongl/core/ErrorCode")) :: ws) ({ frames := 1, cells := 0, slots := 0, locals := 13 } : Room)) (fun a U => a = #[(.ref (A 2))] ∧ Z.Warmed39 U.vm ∧ U.heap = h0) (fun _ _ _ _ _ => True) (fun _ U o U' => ∃ v L, o = .returned v ∧ (PQ (some (.ref (A 2))) h0 n0) v U'.heap L ∧ FrameEnd U o U' L ({ frames := 1, cells := 0, slots := 0, locals := 13 } : Room).cells ({ frames := 1, cells := 0, slots := 0, locals := 13 } : Room).slots) := by
  refine MetFree.of_bodySF (plainFor_of_name own_pn1) hisR ?_
  intro p e s m args below meth c s₁ Bd hml0 hP hK
  obtain ⟨rfl, hZ, hh⟩ := hP
  have hx := Bd.exec
  have hby := Bd.bytes
  have hml : c.maxLocals = 2 := hml0
  have hown : s.vm.findClass "com/example/dongl/dongl/server/ClientRefusals" = some m.cls := findClass_of_methodNamed Bd.named
  have hnm := (name_of_methodNamed Bd.named Bd.method).1
  have X0 : Stand p l e ({ frames := 1, cells := 0, slots := 0, locals := 13 } : Room) s m #[(.ref (A 2))] below meth c s₁ [] 0 0 := Stand.of_body Bd
  have e0 : s₁.heap = h0 := by rw [← hh, Bd.state]; rfl
  have N0 := Fr.nil n0
  have pre0 : ∀ t, Steps p.tables e below (s₁.setTop (mkF m 0 #[.val (.ref (A 2)), .unset] [])) t → Steps p.tables e below (s₁.setTop (entryFrame m #[(.ref (A 2))] 2)) t := fun t k => castTop (own_ef_rm5 m p1 A K ) k
  have KK0 : Keep h0 h0 [] := Keep.refl _ _
  obtain ⟨T157, X157, e157, st157⟩ := getS2 X0 hx hZ hown (host := "") (Or.inl (hw _ (List.mem_of_getElem? (i := 53) rfl))) Via.refl e0 (EN.2.2.2.2.2.1.2.2.2.2.1.ext OL0.2) (g := (mkF m 0 #[.val (.ref (A 2)), .unset] [])) rfl (hb hby own_d_prog_32_method_2_code_0)
  obtain ⟨cq159, kq159, q159a, q159b, q159c⟩ := isOf hZ e157 (EN.1.2.2.2.2.2.1.ext OL0.2)
  obtain ⟨_, _, ⟨T159, L159, k159, n159⟩, -, X159, ⟨Lc159, hQ159, l159, y159, z159⟩, st159⟩ := X157.virtualBackUp hx (x := own_m2) (y := own_m1) (owner := "java/lang/Enum") hown (mvT hZ (hw _ (List.mem_of_getElem? (i := 56) rfl))) (mvT hZ (hw _ (List.mem_of_getElem? (i := 57) rfl))) (mvT hZ (hw _ (List.mem_of_getElem? (i := 58) rfl))) (by decide) (mvT hZ (hw _ (List.mem_of_getElem? (i := 60) rfl))) (mvT hZ (hw _ (List.mem_of_getElem? (i := 59) rfl))) (backOf (W := 1) (rm6 l Z a0 hw [] h0 n0 p1 A K EN OL0) hZ (hw _ (List.mem_of_getElem? (i := 62) rfl)) (hw _ (List.mem_of_getElem? (i := 61) rfl)) (by decide) (by decide)) q159a q159c (g := (mkF m 4 #[.val (.ref (A 2)), .unset] [(.ref (A 2)), (.ref (A 22))])) rfl (by rw [hml]; rfl) (Steps.refl _) (argsL := []) (rest := [(.ref (A 22))]) (lenOf own_pd0 rfl) rfl (by show 2 * 0 + _ ≤ _; exact Nat.le_of_eq rfl) (hb hby own_d_prog_32_method_2_code_4) (fun _ _ => ⟨rfl, e157, (by decide : 0 + 0 ≤ _), (by decide : 0 + 0 ≤ _)⟩)
  dsimp only [Pt.U, Pt.locs, Pt.cells, Pt.slots] at X159 l159 y159 z159 st159 hQ159
  replace X159 := own_sub X159 l159 y159 z159
  obtain ⟨rfl, N159q, e159⟩ := hQ159
  have N159 := Fr.app N0 N159q
  obtain ⟨cl160, Ar160, q160, Sz160, Nn160, Hh160, Gg160⟩ := (id (EN.2.2.2.2.2.1.2.2.2.2.2.1.ext OL0.2))
  have hin160 : ¬ ((2 : Int32) < 0 ∨ cl160.slots.size ≤ ((2 : Int32)).toNatClampNeg) := inb_of Sz160 ⟨by decide, by decide⟩
  have hat160 : cl160.slots[((2 : Int32)).toNatClampNeg]? = some (.int (0 : Int32)) := Has.at Hh160 hin160 rfl
  obtain ⟨fs, hr, hrun, hended, hW, hsame⟩ := X159.leave (v := some (.ref (A 2))) (fun h => by rw [Bd.returns] at h; cases h)
  refine ⟨_, _, pre0 _ ?_, hrun, hended, _, _, rfl, ?_, ⟨_, rfl⟩, hW, hsame.mono (by decide) (by decide)⟩
  · show Steps p.tables e below (s₁.setTop (mkF m 0 #[.val (.ref (A 2)), .unset] [])) _
    refine st157 _ ?_
    show Steps p.tables e below (T157.setTop (mkF m 3 #[.val (.ref (A 2)), .unset] [(.ref (A 22))])) _
    refine XS.aloadN X157.here hx rfl (hb hby own_d_prog_32_method_2_code_3) rfl rfl ?_
    show Steps p.tables e below (T157.setTop (mkF m 4 #[.val (.ref (A 2)), .unset] [(.ref (A 2)), (.ref (A 22))])) _
    refine st159.trans ?_
    show Steps p.tables e below (T159.setTop (mkF m 7 #[.val (.ref (A 2)), .unset] [(.int (2 : Int32)), (.ref (A 22))])) _
    refine X159.iaload hx (j := (2 : Int32)) (v := (.int (0 : Int32))) (by rw [e159]; exact Ar160.1) (State.isArrayOf_alike hZ.alike Ar160.2.1) Ar160.2.2 hin160 hat160 (g := (mkF m 7 #[.val (.ref (A 2)), .unset] [(.int (2 : Int32)), (.ref (A 22))])) rfl rfl (hb hby own_d_prog_32_method_2_code_7) _ ?_
    show Steps p.tables e below (T159.setTop (mkF m 8 #[.val (.ref (A 2)), .unset] [(.int (0 : Int32))])) _
    refine XS.tswOut X159.here hx rfl (pc0 := 8) (pc' := 82) rfl (hb hby own_d_prog_32_method_2_code_8) rfl (by decide) (by decide) (by decide) ?_
    show Steps p.tables e below (T159.setTop (mkF m 82 #[.val (.ref (A 2)), .unset] [])) _
    refine XS.aloadN X159.here hx rfl (hb hby own_d_prog_32_method_2_code_82) rfl rfl ?_
    show Steps p.tables e below (T159.setTop (mkF m 83 #[.val (.ref (A 2)), .unset] [(.ref (A 2))])) _
    refine XS.astoreN X159.here hx rfl (hb hby own_d_prog_32_method_2_code_83) rfl rfl (l' := #[.val (.ref (A 2)), .val (.ref (A 2))]) rfl ?_
    show Steps p.tables e below (T159.setTop (mkF m 84 #[.val (.ref (A 2)), .val (.ref (A 2))] [])) _
    refine XS.aloadN X159.here hx rfl (hb hby own_d_prog_32_method_2_code_84) rfl rfl ?_
    show Steps p.tables e below (T159.setTop (mkF m 85 #[.val (.ref (A 2)), .val (.ref (A 2))] [(.ref (A 2))])) _
    exact retOut X159 hx Bd.returns rfl (Or.inr (Or.inr (Or.inr (Or.inr ⟨rfl, rfl, rfl⟩)))) (hb hby own_d_prog_32_method_2_code_85) hr
  · show PQ (some (.ref (A 2))) h0 n0 _ T159.heap _
    rw [e159]
    exact ⟨rfl, N159, rfl⟩
theorem own_ef_rm8 (m : MethodId) (p1 : Int32) (A : Nat → Addr) (K : Nat → ClassId)  : entryFrame m #[(.ref (A 3))] 1 = mkF m 0 #[.val (.ref (A 3))] [] := by first | (simp [entryFrame, mkF, argsToLocals, Value.category, maxLocals]; done) | rfl
set_option maxRecDepth 65536 in
set_option maxHeartbeats 40000000 in
theorem rm8 (l : Launch) (Z : State) (a0 : Array Value) (hw : ∀ d ∈ tables_1, d.before a0 Z = true) (ws : List Jvm.Cond) (h0 : Heap) (n0 : Nat) (p1 : Int32) (A : Nat → Addr) (K : Nat → ClassId)  (EN : own_St Z A K) (OL0 : Old Z n0 h0) :
    MetFree l own_m1 (head1 (Jvm.Cond.code own_m1 jdk_37_method_2_code 1 (some .int) :: ws) ({ frames := 0, cells := 0, slots := 0, locals := 0 } : Room)) (fun a U => a = #[(.ref (A 3))] ∧ Z.Warmed39 U.vm ∧ U.heap = h0) (fun _ _ _ _ _ => True) (fun _ U o U' => ∃ v L, o = .returned v ∧ (PQ (some (.int (3 : Int32))) h0 n0) v U'.heap L ∧ FrameEnd U o U' L ({ frames := 0, cells := 0, slots := 0, locals := 0 } : Room).cells ({ frames := 0, cells := 0, slots := 0, locals := 0 } : Room).slots) := by
  refine MetFree.of_bodySF (plainFor_of_name own_pn0) hisR ?_
  intro p e s m args below meth c s₁ Bd hml0 hP hK
  obtain ⟨rfl, hZ, hh⟩ := hP
  have hx := Bd.exec
  have hby := Bd.bytes
  have hml : c.maxLocals = 1 := hml0
  have hown : s.vm.findClass "java/lang/Enum" = some m.cls := findClass_of_methodNamed Bd.named
  have hnm := (name_of_methodNamed Bd.named Bd.method).1
  have X0 : Stand p l e ({ frames := 0, cells := 0, slots := 0, locals := 0 } : Room) s m #[(.ref (A 3))] below meth c s₁ [] 0 0 := Stand.of_body Bd
  have e0 : s₁.heap = h0 := by rw [← hh, Bd.state]; rfl
  have N0 := Fr.nil n0
  have pre0 : ∀ t, Steps p.tables e below (s₁.setTop (mkF m 0 #[.val (.ref (A 3))] [])) t → Steps p.tables e below (s₁.setTop (entryFrame m #[(.ref (A 3))] 1)) t := fun t k => castTop (own_ef_rm8 m p1 A K ) k
  have KK0 : Keep h0 h0 [] := Keep.refl _ _
  obtain ⟨T167, X167, e167, st167⟩ := getF X0 hx hZ hown (host := "") (Or.inl (hw _ (List.mem_of_getElem? (i := 63) rfl))) Via.refl e0 (EN.2.2.2.2.2.1.2.2.2.2.2.2.2.1.ext OL0.2) (g := (mkF m 1 #[.val (.ref (A 3))] [(.ref (A 3))])) rfl rfl (hb hby own_d_jdk_37_method_2_code_1)
  obtain ⟨fs, hr, hrun, hended, hW, hsame⟩ := X167.leave (v := some (.int (3 : Int32))) (fun h => by rw [Bd.returns] at h; cases h)
  refine ⟨_, _, pre0 _ ?_, hrun, hended, _, _, rfl, ?_, ⟨_, rfl⟩, hW, hsame.mono (by decide) (by decide)⟩
  · show Steps p.tables e below (s₁.setTop (mkF m 0 #[.val (.ref (A 3))] [])) _
    refine XS.aloadN X0.here hx rfl (hb hby own_d_jdk_37_method_2_code_0) rfl rfl ?_
    show Steps p.tables e below (s₁.setTop (mkF m 1 #[.val (.ref (A 3))] [(.ref (A 3))])) _
    refine st167 _ ?_
    show Steps p.tables e below (T167.setTop (mkF m 4 #[.val (.ref (A 3))] [(.int (3 : Int32))])) _
    exact retI X167 hx Bd.returns (hb hby own_d_jdk_37_method_2_code_4) hr
  · show PQ (some (.int (3 : Int32))) h0 n0 _ T167.heap _
    rw [e167]
    exact ⟨rfl, N0, rfl⟩
theorem own_d_prog_32_method_2_code_70 : decode prog_32_method_2_code 70 = .ok (.getstatic 23, 3) := by decide +kernel
theorem own_d_prog_32_method_2_code_73 : decode prog_32_method_2_code 73 = .ok (.goto 10, 3) := by decide +kernel
theorem own_ef_rm7 (m : MethodId) (p1 : Int32) (A : Nat → Addr) (K : Nat → ClassId)  : entryFrame m #[(.ref (A 3))] 2 = mkF m 0 #[.val (.ref (A 3)), .unset] [] := by first | (simp [entryFrame, mkF, argsToLocals, Value.category, maxLocals]; done) | rfl
set_option maxRecDepth 65536 in
set_option maxHeartbeats 40000000 in
theorem rm7 (l : Launch) (Z : State) (a0 : Array Value) (hw : ∀ d ∈ tables_1, d.before a0 Z = true) (ws : List Jvm.Cond) (h0 : Heap) (n0 : Nat) (p1 : Int32) (A : Nat → Addr) (K : Nat → ClassId)  (EN : own_St Z A K) (OL0 : Old Z n0 h0) :
    MetFree l own_m0 (head1 (Jvm.Cond.code own_m0 prog_32_method_2_code 2 (some (.object "com/example/dongl/dongl/core/ErrorCode")) :: ws) ({ frames := 1, cells := 0, slots := 0, locals := 13 } : Room)) (fun a U => a = #[(.ref (A 3))] ∧ Z.Warmed39 U.vm ∧ U.heap = h0) (fun _ _ _ _ _ => True) (fun _ U o U' => ∃ v L, o = .returned v ∧ (PQ (some (.ref (A 20))) h0 n0) v U'.heap L ∧ FrameEnd U o U' L ({ frames := 1, cells := 0, slots := 0, locals := 13 } : Room).cells ({ frames := 1, cells := 0, slots := 0, locals := 13 } : Room).slots) := by
  refine MetFree.of_bodySF (plainFor_of_name own_pn1) hisR ?_
  intro p e s m args below meth c s₁ Bd hml0 hP hK
  obtain ⟨rfl, hZ, hh⟩ := hP
  have hx := Bd.exec
  have hby := Bd.bytes
  have hml : c.maxLocals = 2 := hml0
  have hown : s.vm.findClass "com/example/dongl/dongl/server/ClientRefusals" = some m.cls := findClass_of_methodNamed Bd.named
  have hnm := (name_of_methodNamed Bd.named Bd.method).1
  have X0 : Stand p l e ({ frames := 1, cells := 0, slots := 0, locals := 13 } : Room) s m #[(.ref (A 3))] below meth c s₁ [] 0 0 := Stand.of_body Bd
  have e0 : s₁.heap = h0 := by rw [← hh, Bd.state]; rfl
  have N0 := Fr.nil n0
  have pre0 : ∀ t, Steps p.tables e below (s₁.setTop (mkF m 0 #[.val (.ref (A 3)), .unset] [])) t → Steps p.tables e below (s₁.setTop (entryFrame m #[(.ref (A 3))] 2)) t := fun t k => castTop (own_ef_rm7 m p1 A K ) k
  have KK0 : Keep h0 h0 [] := Keep.refl _ _
  obtain ⟨T166, X166, e166, st166⟩ := getS2 X0 hx hZ hown (host := "") (Or.inl (hw _ (List.mem_of_getElem? (i := 53) rfl))) Via.refl e0 (EN.2.2.2.2.2.1.2.2.2.2.1.ext OL0.2) (g := (mkF m 0 #[.val (.ref (A 3)), .unset] [])) rfl (hb hby own_d_prog_32_method_2_code_0)
  obtain ⟨cq168, kq168, q168a, q168b, q168c⟩ := isOf hZ e166 (EN.1.2.2.2.2.2.2.2.1.ext OL0.2)
  obtain ⟨_, _, ⟨T168, L168, k168, n168⟩, -, X168, ⟨Lc168, hQ168, l168, y168, z168⟩, st168⟩ := X166.virtualBackUp hx (x := own_m2) (y := own_m1) (owner := "java/lang/Enum") hown (mvT hZ (hw _ (List.mem_of_getElem? (i := 56) rfl))) (mvT hZ (hw _ (List.mem_of_getElem? (i := 57) rfl))) (mvT hZ (hw _ (List.mem_of_getElem? (i := 58) rfl))) (by decide) (mvT hZ (hw _ (List.mem_of_getElem? (i := 60) rfl))) (mvT hZ (hw _ (List.mem_of_getElem? (i := 59) rfl))) (backOf (W := 1) (rm8 l Z a0 hw [] h0 n0 p1 A K EN OL0) hZ (hw _ (List.mem_of_getElem? (i := 62) rfl)) (hw _ (List.mem_of_getElem? (i := 61) rfl)) (by decide) (by decide)) q168a q168c (g := (mkF m 4 #[.val (.ref (A 3)), .unset] [(.ref (A 3)), (.ref (A 22))])) rfl (by rw [hml]; rfl) (Steps.refl _) (argsL := []) (rest := [(.ref (A 22))]) (lenOf own_pd0 rfl) rfl (by show 2 * 0 + _ ≤ _; exact Nat.le_of_eq rfl) (hb hby own_d_prog_32_method_2_code_4) (fun _ _ => ⟨rfl, e166, (by decide : 0 + 0 ≤ _), (by decide : 0 + 0 ≤ _)⟩)
  dsimp only [Pt.U, Pt.locs, Pt.cells, Pt.slots] at X168 l168 y168 z168 st168 hQ168
  replace X168 := own_sub X168 l168 y168 z168
  obtain ⟨rfl, N168q, e168⟩ := hQ168
  have N168 := Fr.app N0 N168q
  obtain ⟨cl169, Ar169, q169, Sz169, Nn169, Hh169, Gg169⟩ := (id (EN.2.2.2.2.2.1.2.2.2.2.2.1.ext OL0.2))
  have hin169 : ¬ ((3 : Int32) < 0 ∨ cl169.slots.size ≤ ((3 : Int32)).toNatClampNeg) := inb_of Sz169 ⟨by decide, by decide⟩
  have hat169 : cl169.slots[((3 : Int32)).toNatClampNeg]? = some (.int (3 : Int32)) := Has.at Hh169 hin169 rfl
  obtain ⟨T170, X170, e170, st170⟩ := getS2 X168 hx hZ hown (host := "") (Or.inl (hw _ (List.mem_of_getElem? (i := 65) rfl))) Via.refl e168 (EN.2.2.2.2.2.1.1.ext OL0.2) (g := (mkF m 70 #[.val (.ref (A 3)), .unset] [])) rfl (hb hby own_d_prog_32_method_2_code_70)
  obtain ⟨fs, hr, hrun, hended, hW, hsame⟩ := X170.leave (v := some (.ref (A 20))) (fun h => by rw [Bd.returns] at h; cases h)
  refine ⟨_, _, pre0 _ ?_, hrun, hended, _, _, rfl, ?_, ⟨_, rfl⟩, hW, hsame.mono (by decide) (by decide)⟩
  · show Steps p.tables e below (s₁.setTop (mkF m 0 #[.val (.ref (A 3)), .unset] [])) _
    refine st166 _ ?_
    show Steps p.tables e below (T166.setTop (mkF m 3 #[.val (.ref (A 3)), .unset] [(.ref (A 22))])) _
    refine XS.aloadN X166.here hx rfl (hb hby own_d_prog_32_method_2_code_3) rfl rfl ?_
    show Steps p.tables e below (T166.setTop (mkF m 4 #[.val (.ref (A 3)), .unset] [(.ref (A 3)), (.ref (A 22))])) _
    refine st168.trans ?_
    show Steps p.tables e below (T168.setTop (mkF m 7 #[.val (.ref (A 3)), .unset] [(.int (3 : Int32)), (.ref (A 22))])) _
    refine X168.iaload hx (j := (3 : Int32)) (v := (.int (3 : Int32))) (by rw [e168]; exact Ar169.1) (State.isArrayOf_alike hZ.alike Ar169.2.1) Ar169.2.2 hin169 hat169 (g := (mkF m 7 #[.val (.ref (A 3)), .unset] [(.int (3 : Int32)), (.ref (A 22))])) rfl rfl (hb hby own_d_prog_32_method_2_code_7) _ ?_
    show Steps p.tables e below (T168.setTop (mkF m 8 #[.val (.ref (A 3)), .unset] [(.int (3 : Int32))])) _
    refine XS.tswIn X168.here hx rfl (pc0 := 8) (pc' := 70) rfl (hb hby own_d_prog_32_method_2_code_8) rfl (by decide) (o := 62) (by decide) (by decide) (by decide) ?_
    show Steps p.tables e below (T168.setTop (mkF m 70 #[.val (.ref (A 3)), .unset] [])) _
    refine st170 _ ?_
    show Steps p.tables e below (T170.setTop (mkF m 73 #[.val (.ref (A 3)), .unset] [(.ref (A 20))])) _
    refine XS.goto X170.here hx rfl (pc0 := 73) (pc' := 83) rfl (hb hby own_d_prog_32_method_2_code_73) (by decide) (by decide) ?_
    show Steps p.tables e below (T170.setTop (mkF m 83 #[.val (.ref (A 3)), .unset] [(.ref (A 20))])) _
    refine XS.astoreN X170.here hx rfl (hb hby own_d_prog_32_method_2_code_83) rfl rfl (l' := #[.val (.ref (A 3)), .val (.ref (A 20))]) rfl ?_
    show Steps p.tables e below (T170.setTop (mkF m 84 #[.val (.ref (A 3)), .val (.ref (A 20))] [])) _
    refine XS.aloadN X170.here hx rfl (hb hby own_d_prog_32_method_2_code_84) rfl rfl ?_
    show Steps p.tables e below (T170.setTop (mkF m 85 #[.val (.ref (A 3)), .val (.ref (A 20))] [(.ref (A 20))])) _
    exact retOut X170 hx Bd.returns rfl (Or.inr (Or.inr (Or.inr (Or.inr ⟨rfl, rfl, rfl⟩)))) (hb hby own_d_prog_32_method_2_code_85) hr
  · show PQ (some (.ref (A 20))) h0 n0 _ T170.heap _
    rw [e170]
    exact ⟨rfl, N168, rfl⟩
theorem own_ef_rm10 (m : MethodId) (p1 : Int32) (A : Nat → Addr) (K : Nat → ClassId)  : entryFrame m #[(.ref (A 20))] 1 = mkF m 0 #[.val (.ref (A 20))] [] := by first | (simp [entryFrame, mkF, argsToLocals, Value.category, maxLocals]; done) | rfl
set_option maxRecDepth 65536 in
set_option maxHeartbeats 40000000 in
theorem rm10 (l : Launch) (Z : State) (a0 : Array Value) (hw : ∀ d ∈ tables_1, d.before a0 Z = true) (ws : List Jvm.Cond) (h0 : Heap) (n0 : Nat) (p1 : Int32) (A : Nat → Addr) (K : Nat → ClassId)  (EN : own_St Z A K) (OL0 : Old Z n0 h0) :
    MetFree l own_m1 (head1 (Jvm.Cond.code own_m1 jdk_37_method_2_code 1 (some .int) :: ws) ({ frames := 0, cells := 0, slots := 0, locals := 0 } : Room)) (fun a U => a = #[(.ref (A 20))] ∧ Z.Warmed39 U.vm ∧ U.heap = h0) (fun _ _ _ _ _ => True) (fun _ U o U' => ∃ v L, o = .returned v ∧ (PQ (some (.int (20 : Int32))) h0 n0) v U'.heap L ∧ FrameEnd U o U' L ({ frames := 0, cells := 0, slots := 0, locals := 0 } : Room).cells ({ frames := 0, cells := 0, slots := 0, locals := 0 } : Room).slots) := by
  refine MetFree.of_bodySF (plainFor_of_name own_pn0) hisR ?_
  intro p e s m args below meth c s₁ Bd hml0 hP hK
  obtain ⟨rfl, hZ, hh⟩ := hP
  have hx := Bd.exec
  have hby := Bd.bytes
  have hml : c.maxLocals = 1 := hml0
  have hown : s.vm.findClass "java/lang/Enum" = some m.cls := findClass_of_methodNamed Bd.named
  have hnm := (name_of_methodNamed Bd.named Bd.method).1
  have X0 : Stand p l e ({ frames := 0, cells := 0, slots := 0, locals := 0 } : Room) s m #[(.ref (A 20))] below meth c s₁ [] 0 0 := Stand.of_body Bd
  have e0 : s₁.heap = h0 := by rw [← hh, Bd.state]; rfl
  have N0 := Fr.nil n0
  have pre0 : ∀ t, Steps p.tables e below (s₁.setTop (mkF m 0 #[.val (.ref (A 20))] [])) t → Steps p.tables e below (s₁.setTop (entryFrame m #[(.ref (A 20))] 1)) t := fun t k => castTop (own_ef_rm10 m p1 A K ) k
  have KK0 : Keep h0 h0 [] := Keep.refl _ _
  obtain ⟨T174, X174, e174, st174⟩ := getF X0 hx hZ hown (host := "") (Or.inl (hw _ (List.mem_of_getElem? (i := 63) rfl))) Via.refl e0 (EN.2.2.2.2.2.2.1.1.ext OL0.2) (g := (mkF m 1 #[.val (.ref (A 20))] [(.ref (A 20))])) rfl rfl (hb hby own_d_jdk_37_method_2_code_1)
  obtain ⟨fs, hr, hrun, hended, hW, hsame⟩ := X174.leave (v := some (.int (20 : Int32))) (fun h => by rw [Bd.returns] at h; cases h)
  refine ⟨_, _, pre0 _ ?_, hrun, hended, _, _, rfl, ?_, ⟨_, rfl⟩, hW, hsame.mono (by decide) (by decide)⟩
  · show Steps p.tables e below (s₁.setTop (mkF m 0 #[.val (.ref (A 20))] [])) _
    refine XS.aloadN X0.here hx rfl (hb hby own_d_jdk_37_method_2_code_0) rfl rfl ?_
    show Steps p.tables e below (s₁.setTop (mkF m 1 #[.val (.ref (A 20))] [(.ref (A 20))])) _
    refine st174 _ ?_
    show Steps p.tables e below (T174.setTop (mkF m 4 #[.val (.ref (A 20))] [(.int (20 : Int32))])) _
    exact retI X174 hx Bd.returns (hb hby own_d_jdk_37_method_2_code_4) hr
  · show PQ (some (.int (20 : Int32))) h0 n0 _ T174.heap _
    rw [e174]
    exact ⟨rfl, N0, rfl⟩
theorem own_ef_rm9 (m : MethodId) (p1 : Int32) (A : Nat → Addr) (K : Nat → ClassId)  : entryFrame m #[(.ref (A 20))] 2 = mkF m 0 #[.val (.ref (A 20)), .unset] [] := by first | (simp [entryFrame, mkF, argsToLocals, Value.category, maxLocals]; done) | rfl
set_option maxRecDepth 65536 in
set_option maxHeartbeats 40000000 in
theorem rm9 (l : Launch) (Z : State) (a0 : Array Value) (hw : ∀ d ∈ tables_1, d.before a0 Z = true) (ws : List Jvm.Cond) (h0 : Heap) (n0 : Nat) (p1 : Int32) (A : Nat → Addr) (K : Nat → ClassId)  (EN : own_St Z A K) (OL0 : Old Z n0 h0) :
    MetFree l own_m0 (head1 (Jvm.Cond.code own_m0 prog_32_method_2_code 2 (some (.object "com/example/dongl/dongl/core/ErrorCode")) :: ws) ({ frames := 1, cells := 0, slots := 0, locals := 13 } : Room)) (fun a U => a = #[(.ref (A 20))] ∧ Z.Warmed39 U.vm ∧ U.heap = h0) (fun _ _ _ _ _ => True) (fun _ U o U' => ∃ v L, o = .returned v ∧ (PQ (some (.ref (A 20))) h0 n0) v U'.heap L ∧ FrameEnd U o U' L ({ frames := 1, cells := 0, slots := 0, locals := 13 } : Room).cells ({ frames := 1, cells := 0, slots := 0, locals := 13 } : Room).slots) := by
  refine MetFree.of_bodySF (plainFor_of_name own_pn1) hisR ?_
  intro p e s m args below meth c s₁ Bd hml0 hP hK
  obtain ⟨rfl, hZ, hh⟩ := hP
  have hx := Bd.exec
  have hby := Bd.bytes
  have hml : c.maxLocals = 2 := hml0
  have hown : s.vm.findClass "com/example/dongl/dongl/server/ClientRefusals" = some m.cls := findClass_of_methodNamed Bd.named
  have hnm := (name_of_methodNamed Bd.named Bd.method).1
  have X0 : Stand p l e ({ frames := 1, cells := 0, slots := 0, locals := 13 } : Room) s m #[(.ref (A 20))] below meth c s₁ [] 0 0 := Stand.of_body Bd
  have e0 : s₁.heap = h0 := by rw [← hh, Bd.state]; rfl
  have N0 := Fr.nil n0
  have pre0 : ∀ t, Steps p.tables e below (s₁.setTop (mkF m 0 #[.val (.ref (A 20)), .unset] [])) t → Steps p.tables e below (s₁.setTop (entryFrame m #[(.ref (A 20))] 2)) t := fun t k => castTop (own_ef_rm9 m p1 A K ) k
  have KK0 : Keep h0 h0 [] := Keep.refl _ _
  obtain ⟨T173, X173, e173, st173⟩ := getS2 X0 hx hZ hown (host := "") (Or.inl (hw _ (List.mem_of_getElem? (i := 53) rfl))) Via.refl e0 (EN.2.2.2.2.2.1.2.2.2.2.1.ext OL0.2) (g := (mkF m 0 #[.val (.ref (A 20)), .unset] [])) rfl (hb hby own_d_prog_32_method_2_code_0)
  obtain ⟨cq175, kq175, q175a, q175b, q175c⟩ := isOf hZ e173 (EN.2.2.2.2.2.1.2.1.ext OL0.2)
  obtain ⟨_, _, ⟨T175, L175, k175, n175⟩, -, X175, ⟨Lc175, hQ175, l175, y175, z175⟩, st175⟩ := X173.virtualBackUp hx (x := own_m2) (y := own_m1) (owner := "java/lang/Enum") hown (mvT hZ (hw _ (List.mem_of_getElem? (i := 56) rfl))) (mvT hZ (hw _ (List.mem_of_getElem? (i := 57) rfl))) (mvT hZ (hw _ (List.mem_of_getElem? (i := 58) rfl))) (by decide) (mvT hZ (hw _ (List.mem_of_getElem? (i := 60) rfl))) (mvT hZ (hw _ (List.mem_of_getElem? (i := 59) rfl))) (backOf (W := 1) (rm10 l Z a0 hw [] h0 n0 p1 A K EN OL0) hZ (hw _ (List.mem_of_getElem? (i := 62) rfl)) (hw _ (List.mem_of_getElem? (i := 61) rfl)) (by decide) (by decide)) q175a q175c (g := (mkF m 4 #[.val (.ref (A 20)), .unset] [(.ref (A 20)), (.ref (A 22))])) rfl (by rw [hml]; rfl) (Steps.refl _) (argsL := []) (rest := [(.ref (A 22))]) (lenOf own_pd0 rfl) rfl (by show 2 * 0 + _ ≤ _; exact Nat.le_of_eq rfl) (hb hby own_d_prog_32_method_2_code_4) (fun _ _ => ⟨rfl, e173, (by decide : 0 + 0 ≤ _), (by decide : 0 + 0 ≤ _)⟩)
  dsimp only [Pt.U, Pt.locs, Pt.cells, Pt.slots] at X175 l175 y175 z175 st175 hQ175
  replace X175 := own_sub X175 l175 y175 z175
  obtain ⟨rfl, N175q, e175⟩ := hQ175
  have N175 := Fr.app N0 N175q
  obtain ⟨cl176, Ar176, q176, Sz176, Nn176, Hh176, Gg176⟩ := (id (EN.2.2.2.2.2.1.2.2.2.2.2.1.ext OL0.2))
  have hin176 : ¬ ((20 : Int32) < 0 ∨ cl176.slots.size ≤ ((20 : Int32)).toNatClampNeg) := inb_of Sz176 ⟨by decide, by decide⟩
  have hat176 : cl176.slots[((20 : Int32)).toNatClampNeg]? = some (.int (0 : Int32)) := Has.at Hh176 hin176 rfl
  obtain ⟨fs, hr, hrun, hended, hW, hsame⟩ := X175.leave (v := some (.ref (A 20))) (fun h => by rw [Bd.returns] at h; cases h)
  refine ⟨_, _, pre0 _ ?_, hrun, hended, _, _, rfl, ?_, ⟨_, rfl⟩, hW, hsame.mono (by decide) (by decide)⟩
  · show Steps p.tables e below (s₁.setTop (mkF m 0 #[.val (.ref (A 20)), .unset] [])) _
    refine st173 _ ?_
    show Steps p.tables e below (T173.setTop (mkF m 3 #[.val (.ref (A 20)), .unset] [(.ref (A 22))])) _
    refine XS.aloadN X173.here hx rfl (hb hby own_d_prog_32_method_2_code_3) rfl rfl ?_
    show Steps p.tables e below (T173.setTop (mkF m 4 #[.val (.ref (A 20)), .unset] [(.ref (A 20)), (.ref (A 22))])) _
    refine st175.trans ?_
    show Steps p.tables e below (T175.setTop (mkF m 7 #[.val (.ref (A 20)), .unset] [(.int (20 : Int32)), (.ref (A 22))])) _
    refine X175.iaload hx (j := (20 : Int32)) (v := (.int (0 : Int32))) (by rw [e175]; exact Ar176.1) (State.isArrayOf_alike hZ.alike Ar176.2.1) Ar176.2.2 hin176 hat176 (g := (mkF m 7 #[.val (.ref (A 20)), .unset] [(.int (20 : Int32)), (.ref (A 22))])) rfl rfl (hb hby own_d_prog_32_method_2_code_7) _ ?_
    show Steps p.tables e below (T175.setTop (mkF m 8 #[.val (.ref (A 20)), .unset] [(.int (0 : Int32))])) _
    refine XS.tswOut X175.here hx rfl (pc0 := 8) (pc' := 82) rfl (hb hby own_d_prog_32_method_2_code_8) rfl (by decide) (by decide) (by decide) ?_
    show Steps p.tables e below (T175.setTop (mkF m 82 #[.val (.ref (A 20)), .unset] [])) _
    refine XS.aloadN X175.here hx rfl (hb hby own_d_prog_32_method_2_code_82) rfl rfl ?_
    show Steps p.tables e below (T175.setTop (mkF m 83 #[.val (.ref (A 20)), .unset] [(.ref (A 20))])) _
    refine XS.astoreN X175.here hx rfl (hb hby own_d_prog_32_method_2_code_83) rfl rfl (l' := #[.val (.ref (A 20)), .val (.ref (A 20))]) rfl ?_
    show Steps p.tables e below (T175.setTop (mkF m 84 #[.val (.ref (A 20)), .val (.ref (A 20))] [])) _
    refine XS.aloadN X175.here hx rfl (hb hby own_d_prog_32_method_2_code_84) rfl rfl ?_
    show Steps p.tables e below (T175.setTop (mkF m 85 #[.val (.ref (A 20)), .val (.ref (A 20))] [(.ref (A 20))])) _
    exact retOut X175 hx Bd.returns rfl (Or.inr (Or.inr (Or.inr (Or.inr ⟨rfl, rfl, rfl⟩)))) (hb hby own_d_prog_32_method_2_code_85) hr
  · show PQ (some (.ref (A 20))) h0 n0 _ T175.heap _
    rw [e175]
    exact ⟨rfl, N175, rfl⟩
theorem own_ef_rm12 (m : MethodId) (p1 : Int32) (A : Nat → Addr) (K : Nat → ClassId)  : entryFrame m #[(.ref (A 4))] 1 = mkF m 0 #[.val (.ref (A 4))] [] := by first | (simp [entryFrame, mkF, argsToLocals, Value.category, maxLocals]; done) | rfl
set_option maxRecDepth 65536 in
set_option maxHeartbeats 40000000 in
theorem rm12 (l : Launch) (Z : State) (a0 : Array Value) (hw : ∀ d ∈ tables_1, d.before a0 Z = true) (ws : List Jvm.Cond) (h0 : Heap) (n0 : Nat) (p1 : Int32) (A : Nat → Addr) (K : Nat → ClassId)  (EN : own_St Z A K) (OL0 : Old Z n0 h0) :
    MetFree l own_m1 (head1 (Jvm.Cond.code own_m1 jdk_37_method_2_code 1 (some .int) :: ws) ({ frames := 0, cells := 0, slots := 0, locals := 0 } : Room)) (fun a U => a = #[(.ref (A 4))] ∧ Z.Warmed39 U.vm ∧ U.heap = h0) (fun _ _ _ _ _ => True) (fun _ U o U' => ∃ v L, o = .returned v ∧ (PQ (some (.int (4 : Int32))) h0 n0) v U'.heap L ∧ FrameEnd U o U' L ({ frames := 0, cells := 0, slots := 0, locals := 0 } : Room).cells ({ frames := 0, cells := 0, slots := 0, locals := 0 } : Room).slots) := by
  refine MetFree.of_bodySF (plainFor_of_name own_pn0) hisR ?_
  intro p e s m args below meth c s₁ Bd hml0 hP hK
  obtain ⟨rfl, hZ, hh⟩ := hP
  have hx := Bd.exec
  have hby := Bd.bytes
  have hml : c.maxLocals = 1 := hml0
  have hown : s.vm.findClass "java/lang/Enum" = some m.cls := findClass_of_methodNamed Bd.named
  have hnm := (name_of_methodNamed Bd.named Bd.method).1
  have X0 : Stand p l e ({ frames := 0, cells := 0, slots := 0, locals := 0 } : Room) s m #[(.ref (A 4))] below meth c s₁ [] 0 0 := Stand.of_body Bd
  have e0 : s₁.heap = h0 := by rw [← hh, Bd.state]; rfl
  have N0 := Fr.nil n0
  have pre0 : ∀ t, Steps p.tables e below (s₁.setTop (mkF m 0 #[.val (.ref (A 4))] [])) t → Steps p.tables e below (s₁.setTop (entryFrame m #[(.ref (A 4))] 1)) t := fun t k => castTop (own_ef_rm12 m p1 A K ) k
  have KK0 : Keep h0 h0 [] := Keep.refl _ _
  obtain ⟨T181, X181, e181, st181⟩ := getF X0 hx hZ hown (host := "") (Or.inl (hw _ (List.mem_of_getElem? (i := 63) rfl))) Via.refl e0 (EN.2.2.2.2.2.2.2.1.2.2.2.2.2.2.1.ext OL0.2) (g := (mkF m 1 #[.val (.ref (A 4))] [(.ref (A 4))])) rfl rfl (hb hby own_d_jdk_37_method_2_code_1)
  obtain ⟨fs, hr, hrun, hended, hW, hsame⟩ := X181.leave (v := some (.int (4 : Int32))) (fun h => by rw [Bd.returns] at h; cases h)
  refine ⟨_, _, pre0 _ ?_, hrun, hended, _, _, rfl, ?_, ⟨_, rfl⟩, hW, hsame.mono (by decide) (by decide)⟩
  · show Steps p.tables e below (s₁.setTop (mkF m 0 #[.val (.ref (A 4))] [])) _
    refine XS.aloadN X0.here hx rfl (hb hby own_d_jdk_37_method_2_code_0) rfl rfl ?_
    show Steps p.tables e below (s₁.setTop (mkF m 1 #[.val (.ref (A 4))] [(.ref (A 4))])) _
    refine st181 _ ?_
    show Steps p.tables e below (T181.setTop (mkF m 4 #[.val (.ref (A 4))] [(.int (4 : Int32))])) _
    exact retI X181 hx Bd.returns (hb hby own_d_jdk_37_method_2_code_4) hr
  · show PQ (some (.int (4 : Int32))) h0 n0 _ T181.heap _
    rw [e181]
    exact ⟨rfl, N0, rfl⟩
theorem own_ef_rm11 (m : MethodId) (p1 : Int32) (A : Nat → Addr) (K : Nat → ClassId)  : entryFrame m #[(.ref (A 4))] 2 = mkF m 0 #[.val (.ref (A 4)), .unset] [] := by first | (simp [entryFrame, mkF, argsToLocals, Value.category, maxLocals]; done) | rfl
set_option maxRecDepth 65536 in
set_option maxHeartbeats 40000000 in
theorem rm11 (l : Launch) (Z : State) (a0 : Array Value) (hw : ∀ d ∈ tables_1, d.before a0 Z = true) (ws : List Jvm.Cond) (h0 : Heap) (n0 : Nat) (p1 : Int32) (A : Nat → Addr) (K : Nat → ClassId)  (EN : own_St Z A K) (OL0 : Old Z n0 h0) :
    MetFree l own_m0 (head1 (Jvm.Cond.code own_m0 prog_32_method_2_code 2 (some (.object "com/example/dongl/dongl/core/ErrorCode")) :: ws) ({ frames := 1, cells := 0, slots := 0, locals := 13 } : Room)) (fun a U => a = #[(.ref (A 4))] ∧ Z.Warmed39 U.vm ∧ U.heap = h0) (fun _ _ _ _ _ => True) (fun _ U o U' => ∃ v L, o = .returned v ∧ (PQ (some (.ref (A 4))) h0 n0) v U'.heap L ∧ FrameEnd U o U' L ({ frames := 1, cells := 0, slots := 0, locals := 13 } : Room).cells ({ frames := 1, cells := 0, slots := 0, locals := 13 } : Room).slots) := by
  refine MetFree.of_bodySF (plainFor_of_name own_pn1) hisR ?_
  intro p e s m args below meth c s₁ Bd hml0 hP hK
  obtain ⟨rfl, hZ, hh⟩ := hP
  have hx := Bd.exec
  have hby := Bd.bytes
  have hml : c.maxLocals = 2 := hml0
  have hown : s.vm.findClass "com/example/dongl/dongl/server/ClientRefusals" = some m.cls := findClass_of_methodNamed Bd.named
  have hnm := (name_of_methodNamed Bd.named Bd.method).1
  have X0 : Stand p l e ({ frames := 1, cells := 0, slots := 0, locals := 13 } : Room) s m #[(.ref (A 4))] below meth c s₁ [] 0 0 := Stand.of_body Bd
  have e0 : s₁.heap = h0 := by rw [← hh, Bd.state]; rfl
  have N0 := Fr.nil n0
  have pre0 : ∀ t, Steps p.tables e below (s₁.setTop (mkF m 0 #[.val (.ref (A 4)), .unset] [])) t → Steps p.tables e below (s₁.setTop (entryFrame m #[(.ref (A 4))] 2)) t := fun t k => castTop (own_ef_rm11 m p1 A K ) k
  have KK0 : Keep h0 h0 [] := Keep.refl _ _
  obtain ⟨T180, X180, e180, st180⟩ := getS2 X0 hx hZ hown (host := "") (Or.inl (hw _ (List.mem_of_getElem? (i := 53) rfl))) Via.refl e0 (EN.2.2.2.2.2.1.2.2.2.2.1.ext OL0.2) (g := (mkF m 0 #[.val (.ref (A 4)), .unset] [])) rfl (hb hby own_d_prog_32_method_2_code_0)
  obtain ⟨cq182, kq182, q182a, q182b, q182c⟩ := isOf hZ e180 (EN.2.1.2.1.ext OL0.2)
  obtain ⟨_, _, ⟨T182, L182, k182, n182⟩, -, X182, ⟨Lc182, hQ182, l182, y182, z182⟩, st182⟩ := X180.virtualBackUp hx (x := own_m2) (y := own_m1) (owner := "java/lang/Enum") hown (mvT hZ (hw _ (List.mem_of_getElem? (i := 56) rfl))) (mvT hZ (hw _ (List.mem_of_getElem? (i := 57) rfl))) (mvT hZ (hw _ (List.mem_of_getElem? (i := 58) rfl))) (by decide) (mvT hZ (hw _ (List.mem_of_getElem? (i := 60) rfl))) (mvT hZ (hw _ (List.mem_of_getElem? (i := 59) rfl))) (backOf (W := 1) (rm12 l Z a0 hw [] h0 n0 p1 A K EN OL0) hZ (hw _ (List.mem_of_getElem? (i := 62) rfl)) (hw _ (List.mem_of_getElem? (i := 61) rfl)) (by decide) (by decide)) q182a q182c (g := (mkF m 4 #[.val (.ref (A 4)), .unset] [(.ref (A 4)), (.ref (A 22))])) rfl (by rw [hml]; rfl) (Steps.refl _) (argsL := []) (rest := [(.ref (A 22))]) (lenOf own_pd0 rfl) rfl (by show 2 * 0 + _ ≤ _; exact Nat.le_of_eq rfl) (hb hby own_d_prog_32_method_2_code_4) (fun _ _ => ⟨rfl, e180, (by decide : 0 + 0 ≤ _), (by decide : 0 + 0 ≤ _)⟩)
  dsimp only [Pt.U, Pt.locs, Pt.cells, Pt.slots] at X182 l182 y182 z182 st182 hQ182
  replace X182 := own_sub X182 l182 y182 z182
  obtain ⟨rfl, N182q, e182⟩ := hQ182
  have N182 := Fr.app N0 N182q
  obtain ⟨cl183, Ar183, q183, Sz183, Nn183, Hh183, Gg183⟩ := (id (EN.2.2.2.2.2.1.2.2.2.2.2.1.ext OL0.2))
  have hin183 : ¬ ((4 : Int32) < 0 ∨ cl183.slots.size ≤ ((4 : Int32)).toNatClampNeg) := inb_of Sz183 ⟨by decide, by decide⟩
  have hat183 : cl183.slots[((4 : Int32)).toNatClampNeg]? = some (.int (0 : Int32)) := Has.at Hh183 hin183 rfl
  obtain ⟨fs, hr, hrun, hended, hW, hsame⟩ := X182.leave (v := some (.ref (A 4))) (fun h => by rw [Bd.returns] at h; cases h)
  refine ⟨_, _, pre0 _ ?_, hrun, hended, _, _, rfl, ?_, ⟨_, rfl⟩, hW, hsame.mono (by decide) (by decide)⟩
  · show Steps p.tables e below (s₁.setTop (mkF m 0 #[.val (.ref (A 4)), .unset] [])) _
    refine st180 _ ?_
    show Steps p.tables e below (T180.setTop (mkF m 3 #[.val (.ref (A 4)), .unset] [(.ref (A 22))])) _
    refine XS.aloadN X180.here hx rfl (hb hby own_d_prog_32_method_2_code_3) rfl rfl ?_
    show Steps p.tables e below (T180.setTop (mkF m 4 #[.val (.ref (A 4)), .unset] [(.ref (A 4)), (.ref (A 22))])) _
    refine st182.trans ?_
    show Steps p.tables e below (T182.setTop (mkF m 7 #[.val (.ref (A 4)), .unset] [(.int (4 : Int32)), (.ref (A 22))])) _
    refine X182.iaload hx (j := (4 : Int32)) (v := (.int (0 : Int32))) (by rw [e182]; exact Ar183.1) (State.isArrayOf_alike hZ.alike Ar183.2.1) Ar183.2.2 hin183 hat183 (g := (mkF m 7 #[.val (.ref (A 4)), .unset] [(.int (4 : Int32)), (.ref (A 22))])) rfl rfl (hb hby own_d_prog_32_method_2_code_7) _ ?_
    show Steps p.tables e below (T182.setTop (mkF m 8 #[.val (.ref (A 4)), .unset] [(.int (0 : Int32))])) _
    refine XS.tswOut X182.here hx rfl (pc0 := 8) (pc' := 82) rfl (hb hby own_d_prog_32_method_2_code_8) rfl (by decide) (by decide) (by decide) ?_
    show Steps p.tables e below (T182.setTop (mkF m 82 #[.val (.ref (A 4)), .unset] [])) _
    refine XS.aloadN X182.here hx rfl (hb hby own_d_prog_32_method_2_code_82) rfl rfl ?_
    show Steps p.tables e below (T182.setTop (mkF m 83 #[.val (.ref (A 4)), .unset] [(.ref (A 4))])) _
    refine XS.astoreN X182.here hx rfl (hb hby own_d_prog_32_method_2_code_83) rfl rfl (l' := #[.val (.ref (A 4)), .val (.ref (A 4))]) rfl ?_
    show Steps p.tables e below (T182.setTop (mkF m 84 #[.val (.ref (A 4)), .val (.ref (A 4))] [])) _
    refine XS.aloadN X182.here hx rfl (hb hby own_d_prog_32_method_2_code_84) rfl rfl ?_
    show Steps p.tables e below (T182.setTop (mkF m 85 #[.val (.ref (A 4)), .val (.ref (A 4))] [(.ref (A 4))])) _
    exact retOut X182 hx Bd.returns rfl (Or.inr (Or.inr (Or.inr (Or.inr ⟨rfl, rfl, rfl⟩)))) (hb hby own_d_prog_32_method_2_code_85) hr
  · show PQ (some (.ref (A 4))) h0 n0 _ T182.heap _
    rw [e182]
    exact ⟨rfl, N182, rfl⟩
theorem own_ef_rm14 (m : MethodId) (p1 : Int32) (A : Nat → Addr) (K : Nat → ClassId)  : entryFrame m #[(.ref (A 5))] 1 = mkF m 0 #[.val (.ref (A 5))] [] := by first | (simp [entryFrame, mkF, argsToLocals, Value.category, maxLocals]; done) | rfl
set_option maxRecDepth 65536 in
set_option maxHeartbeats 40000000 in
theorem rm14 (l : Launch) (Z : State) (a0 : Array Value) (hw : ∀ d ∈ tables_1, d.before a0 Z = true) (ws : List Jvm.Cond) (h0 : Heap) (n0 : Nat) (p1 : Int32) (A : Nat → Addr) (K : Nat → ClassId)  (EN : own_St Z A K) (OL0 : Old Z n0 h0) :
    MetFree l own_m1 (head1 (Jvm.Cond.code own_m1 jdk_37_method_2_code 1 (some .int) :: ws) ({ frames := 0, cells := 0, slots := 0, locals := 0 } : Room)) (fun a U => a = #[(.ref (A 5))] ∧ Z.Warmed39 U.vm ∧ U.heap = h0) (fun _ _ _ _ _ => True) (fun _ U o U' => ∃ v L, o = .returned v ∧ (PQ (some (.int (5 : Int32))) h0 n0) v U'.heap L ∧ FrameEnd U o U' L ({ frames := 0, cells := 0, slots := 0, locals := 0 } : Room).cells ({ frames := 0, cells := 0, slots := 0, locals := 0 } : Room).slots) := by
  refine MetFree.of_bodySF (plainFor_of_name own_pn0) hisR ?_
  intro p e s m args below meth c s₁ Bd hml0 hP hK
  obtain ⟨rfl, hZ, hh⟩ := hP
  have hx := Bd.exec
  have hby := Bd.bytes
  have hml : c.maxLocals = 1 := hml0
  have hown : s.vm.findClass "java/lang/Enum" = some m.cls := findClass_of_methodNamed Bd.named
  have hnm := (name_of_methodNamed Bd.named Bd.method).1
  have X0 : Stand p l e ({ frames := 0, cells := 0, slots := 0, locals := 0 } : Room) s m #[(.ref (A 5))] below meth c s₁ [] 0 0 := Stand.of_body Bd
  have e0 : s₁.heap = h0 := by rw [← hh, Bd.state]; rfl
  have N0 := Fr.nil n0
  have pre0 : ∀ t, Steps p.tables e below (s₁.setTop (mkF m 0 #[.val (.ref (A 5))] [])) t → Steps p.tables e below (s₁.setTop (entryFrame m #[(.ref (A 5))] 1)) t := fun t k => castTop (own_ef_rm14 m p1 A K ) k
  have KK0 : Keep h0 h0 [] := Keep.refl _ _
  obtain ⟨T190, X190, e190, st190⟩ := getF X0 hx hZ hown (host := "") (Or.inl (hw _ (List.mem_of_getElem? (i := 63) rfl))) Via.refl e0 (EN.2.2.2.2.2.2.2.1.2.1.ext OL0.2) (g := (mkF m 1 #[.val (.ref (A 5))] [(.ref (A 5))])) rfl rfl (hb hby own_d_jdk_37_method_2_code_1)
  obtain ⟨fs, hr, hrun, hended, hW, hsame⟩ := X190.leave (v := some (.int (5 : Int32))) (fun h => by rw [Bd.returns] at h; cases h)
  refine ⟨_, _, pre0 _ ?_, hrun, hended, _, _, rfl, ?_, ⟨_, rfl⟩, hW, hsame.mono (by decide) (by decide)⟩
  · show Steps p.tables e below (s₁.setTop (mkF m 0 #[.val (.ref (A 5))] [])) _
    refine XS.aloadN X0.here hx rfl (hb hby own_d_jdk_37_method_2_code_0) rfl rfl ?_
    show Steps p.tables e below (s₁.setTop (mkF m 1 #[.val (.ref (A 5))] [(.ref (A 5))])) _
    refine st190 _ ?_
    show Steps p.tables e below (T190.setTop (mkF m 4 #[.val (.ref (A 5))] [(.int (5 : Int32))])) _
    exact retI X190 hx Bd.returns (hb hby own_d_jdk_37_method_2_code_4) hr
  · show PQ (some (.int (5 : Int32))) h0 n0 _ T190.heap _
    rw [e190]
    exact ⟨rfl, N0, rfl⟩
theorem own_d_prog_32_method_2_code_76 : decode prog_32_method_2_code 76 = .ok (.getstatic 26, 3) := by decide +kernel
theorem own_d_prog_32_method_2_code_79 : decode prog_32_method_2_code 79 = .ok (.goto 4, 3) := by decide +kernel
theorem own_ef_rm13 (m : MethodId) (p1 : Int32) (A : Nat → Addr) (K : Nat → ClassId)  : entryFrame m #[(.ref (A 5))] 2 = mkF m 0 #[.val (.ref (A 5)), .unset] [] := by first | (simp [entryFrame, mkF, argsToLocals, Value.category, maxLocals]; done) | rfl
set_option maxRecDepth 65536 in
set_option maxHeartbeats 40000000 in
theorem rm13 (l : Launch) (Z : State) (a0 : Array Value) (hw : ∀ d ∈ tables_1, d.before a0 Z = true) (ws : List Jvm.Cond) (h0 : Heap) (n0 : Nat) (p1 : Int32) (A : Nat → Addr) (K : Nat → ClassId)  (EN : own_St Z A K) (OL0 : Old Z n0 h0) :
    MetFree l own_m0 (head1 (Jvm.Cond.code own_m0 prog_32_method_2_code 2 (some (.object "com/example/dongl/dongl/core/ErrorCode")) :: ws) ({ frames := 1, cells := 0, slots := 0, locals := 13 } : Room)) (fun a U => a = #[(.ref (A 5))] ∧ Z.Warmed39 U.vm ∧ U.heap = h0) (fun _ _ _ _ _ => True) (fun _ U o U' => ∃ v L, o = .returned v ∧ (PQ (some (.ref (A 19))) h0 n0) v U'.heap L ∧ FrameEnd U o U' L ({ frames := 1, cells := 0, slots := 0, locals := 13 } : Room).cells ({ frames := 1, cells := 0, slots := 0, locals := 13 } : Room).slots) := by
  refine MetFree.of_bodySF (plainFor_of_name own_pn1) hisR ?_
  intro p e s m args below meth c s₁ Bd hml0 hP hK
  obtain ⟨rfl, hZ, hh⟩ := hP
  have hx := Bd.exec
  have hby := Bd.bytes
  have hml : c.maxLocals = 2 := hml0
  have hown : s.vm.findClass "com/example/dongl/dongl/server/ClientRefusals" = some m.cls := findClass_of_methodNamed Bd.named
  have hnm := (name_of_methodNamed Bd.named Bd.method).1
  have X0 : Stand p l e ({ frames := 1, cells := 0, slots := 0, locals := 13 } : Room) s m #[(.ref (A 5))] below meth c s₁ [] 0 0 := Stand.of_body Bd
  have e0 : s₁.heap = h0 := by rw [← hh, Bd.state]; rfl
  have N0 := Fr.nil n0
  have pre0 : ∀ t, Steps p.tables e below (s₁.setTop (mkF m 0 #[.val (.ref (A 5)), .unset] [])) t → Steps p.tables e below (s₁.setTop (entryFrame m #[(.ref (A 5))] 2)) t := fun t k => castTop (own_ef_rm13 m p1 A K ) k
  have KK0 : Keep h0 h0 [] := Keep.refl _ _
  obtain ⟨T189, X189, e189, st189⟩ := getS2 X0 hx hZ hown (host := "") (Or.inl (hw _ (List.mem_of_getElem? (i := 53) rfl))) Via.refl e0 (EN.2.2.2.2.2.1.2.2.2.2.1.ext OL0.2) (g := (mkF m 0 #[.val (.ref (A 5)), .unset] [])) rfl (hb hby own_d_prog_32_method_2_code_0)
  obtain ⟨cq191, kq191, q191a, q191b, q191c⟩ := isOf hZ e189 (EN.2.1.2.2.2.1.ext OL0.2)
  obtain ⟨_, _, ⟨T191, L191, k191, n191⟩, -, X191, ⟨Lc191, hQ191, l191, y191, z191⟩, st191⟩ := X189.virtualBackUp hx (x := own_m2) (y := own_m1) (owner := "java/lang/Enum") hown (mvT hZ (hw _ (List.mem_of_getElem? (i := 56) rfl))) (mvT hZ (hw _ (List.mem_of_getElem? (i := 57) rfl))) (mvT hZ (hw _ (List.mem_of_getElem? (i := 58) rfl))) (by decide) (mvT hZ (hw _ (List.mem_of_getElem? (i := 60) rfl))) (mvT hZ (hw _ (List.mem_of_getElem? (i := 59) rfl))) (backOf (W := 1) (rm14 l Z a0 hw [] h0 n0 p1 A K EN OL0) hZ (hw _ (List.mem_of_getElem? (i := 62) rfl)) (hw _ (List.mem_of_getElem? (i := 61) rfl)) (by decide) (by decide)) q191a q191c (g := (mkF m 4 #[.val (.ref (A 5)), .unset] [(.ref (A 5)), (.ref (A 22))])) rfl (by rw [hml]; rfl) (Steps.refl _) (argsL := []) (rest := [(.ref (A 22))]) (lenOf own_pd0 rfl) rfl (by show 2 * 0 + _ ≤ _; exact Nat.le_of_eq rfl) (hb hby own_d_prog_32_method_2_code_4) (fun _ _ => ⟨rfl, e189, (by decide : 0 + 0 ≤ _), (by decide : 0 + 0 ≤ _)⟩)
  dsimp only [Pt.U, Pt.locs, Pt.cells, Pt.slots] at X191 l191 y191 z191 st191 hQ191
  replace X191 := own_sub X191 l191 y191 z191
  obtain ⟨rfl, N191q, e191⟩ := hQ191
  have N191 := Fr.app N0 N191q
  obtain ⟨cl192, Ar192, q192, Sz192, Nn192, Hh192, Gg192⟩ := (id (EN.2.2.2.2.2.1.2.2.2.2.2.1.ext OL0.2))
  have hin192 : ¬ ((5 : Int32) < 0 ∨ cl192.slots.size ≤ ((5 : Int32)).toNatClampNeg) := inb_of Sz192 ⟨by decide, by decide⟩
  have hat192 : cl192.slots[((5 : Int32)).toNatClampNeg]? = some (.int (8 : Int32)) := Has.at Hh192 hin192 rfl
  obtain ⟨T193, X193, e193, st193⟩ := getS2 X191 hx hZ hown (host := "") (Or.inl (hw _ (List.mem_of_getElem? (i := 66) rfl))) Via.refl e191 (EN.2.2.2.2.1.2.2.2.2.2.2.1.ext OL0.2) (g := (mkF m 76 #[.val (.ref (A 5)), .unset] [])) rfl (hb hby own_d_prog_32_method_2_code_76)
  obtain ⟨fs, hr, hrun, hended, hW, hsame⟩ := X193.leave (v := some (.ref (A 19))) (fun h => by rw [Bd.returns] at h; cases h)
  refine ⟨_, _, pre0 _ ?_, hrun, hended, _, _, rfl, ?_, ⟨_, rfl⟩, hW, hsame.mono (by decide) (by decide)⟩
  · show Steps p.tables e below (s₁.setTop (mkF m 0 #[.val (.ref (A 5)), .unset] [])) _
    refine st189 _ ?_
    show Steps p.tables e below (T189.setTop (mkF m 3 #[.val (.ref (A 5)), .unset] [(.ref (A 22))])) _
    refine XS.aloadN X189.here hx rfl (hb hby own_d_prog_32_method_2_code_3) rfl rfl ?_
    show Steps p.tables e below (T189.setTop (mkF m 4 #[.val (.ref (A 5)), .unset] [(.ref (A 5)), (.ref (A 22))])) _
    refine st191.trans ?_
    show Steps p.tables e below (T191.setTop (mkF m 7 #[.val (.ref (A 5)), .unset] [(.int (5 : Int32)), (.ref (A 22))])) _
    refine X191.iaload hx (j := (5 : Int32)) (v := (.int (8 : Int32))) (by rw [e191]; exact Ar192.1) (State.isArrayOf_alike hZ.alike Ar192.2.1) Ar192.2.2 hin192 hat192 (g := (mkF m 7 #[.val (.ref (A 5)), .unset] [(.int (5 : Int32)), (.ref (A 22))])) rfl rfl (hb hby own_d_prog_32_method_2_code_7) _ ?_
    show Steps p.tables e below (T191.setTop (mkF m 8 #[.val (.ref (A 5)), .unset] [(.int (8 : Int32))])) _
    refine XS.tswIn X191.here hx rfl (pc0 := 8) (pc' := 76) rfl (hb hby own_d_prog_32_method_2_code_8) rfl (by decide) (o := 68) (by decide) (by decide) (by decide) ?_
    show Steps p.tables e below (T191.setTop (mkF m 76 #[.val (.ref (A 5)), .unset] [])) _
    refine st193 _ ?_
    show Steps p.tables e below (T193.setTop (mkF m 79 #[.val (.ref (A 5)), .unset] [(.ref (A 19))])) _
    refine XS.goto X193.here hx rfl (pc0 := 79) (pc' := 83) rfl (hb hby own_d_prog_32_method_2_code_79) (by decide) (by decide) ?_
    show Steps p.tables e below (T193.setTop (mkF m 83 #[.val (.ref (A 5)), .unset] [(.ref (A 19))])) _
    refine XS.astoreN X193.here hx rfl (hb hby own_d_prog_32_method_2_code_83) rfl rfl (l' := #[.val (.ref (A 5)), .val (.ref (A 19))]) rfl ?_
    show Steps p.tables e below (T193.setTop (mkF m 84 #[.val (.ref (A 5)), .val (.ref (A 19))] [])) _
    refine XS.aloadN X193.here hx rfl (hb hby own_d_prog_32_method_2_code_84) rfl rfl ?_
    show Steps p.tables e below (T193.setTop (mkF m 85 #[.val (.ref (A 5)), .val (.ref (A 19))] [(.ref (A 19))])) _
    exact retOut X193 hx Bd.returns rfl (Or.inr (Or.inr (Or.inr (Or.inr ⟨rfl, rfl, rfl⟩)))) (hb hby own_d_prog_32_method_2_code_85) hr
  · show PQ (some (.ref (A 19))) h0 n0 _ T193.heap _
    rw [e193]
    exact ⟨rfl, N191, rfl⟩
theorem own_ef_rm16 (m : MethodId) (p1 : Int32) (A : Nat → Addr) (K : Nat → ClassId)  : entryFrame m #[(.ref (A 19))] 1 = mkF m 0 #[.val (.ref (A 19))] [] := by first | (simp [entryFrame, mkF, argsToLocals, Value.category, maxLocals]; done) | rfl
set_option maxRecDepth 65536 in
set_option maxHeartbeats 40000000 in
theorem rm16 (l : Launch) (Z : State) (a0 : Array Value) (hw : ∀ d ∈ tables_1, d.before a0 Z = true) (ws : List Jvm.Cond) (h0 : Heap) (n0 : Nat) (p1 : Int32) (A : Nat → Addr) (K : Nat → ClassId)  (EN : own_St Z A K) (OL0 : Old Z n0 h0) :
    MetFree l own_m1 (head1 (Jvm.Cond.code own_m1 jdk_37_method_2_code 1 (some .int) :: ws) ({ frames := 0, cells := 0, slots := 0, locals := 0 } : Room)) (fun a U => a = #[(.ref (A 19))] ∧ Z.Warmed39 U.vm ∧ U.heap = h0) (fun _ _ _ _ _ => True) (fun _ U o U' => ∃ v L, o = .returned v ∧ (PQ (some (.int (19 : Int32))) h0 n0) v U'.heap L ∧ FrameEnd U o U' L ({ frames := 0, cells := 0, slots := 0, locals := 0 } : Room).cells ({ frames := 0, cells := 0, slots := 0, locals := 0 } : Room).slots) := by
  refine MetFree.of_bodySF (plainFor_of_name own_pn0) hisR ?_
  intro p e s m args below meth c s₁ Bd hml0 hP hK
  obtain ⟨rfl, hZ, hh⟩ := hP
  have hx := Bd.exec
  have hby := Bd.bytes
  have hml : c.maxLocals = 1 := hml0
  have hown : s.vm.findClass "java/lang/Enum" = some m.cls := findClass_of_methodNamed Bd.named
  have hnm := (name_of_methodNamed Bd.named Bd.method).1
  have X0 : Stand p l e ({ frames := 0, cells := 0, slots := 0, locals := 0 } : Room) s m #[(.ref (A 19))] below meth c s₁ [] 0 0 := Stand.of_body Bd
  have e0 : s₁.heap = h0 := by rw [← hh, Bd.state]; rfl
  have N0 := Fr.nil n0
  have pre0 : ∀ t, Steps p.tables e below (s₁.setTop (mkF m 0 #[.val (.ref (A 19))] [])) t → Steps p.tables e below (s₁.setTop (entryFrame m #[(.ref (A 19))] 1)) t := fun t k => castTop (own_ef_rm16 m p1 A K ) k
  have KK0 : Keep h0 h0 [] := Keep.refl _ _
  obtain ⟨T197, X197, e197, st197⟩ := getF X0 hx hZ hown (host := "") (Or.inl (hw _ (List.mem_of_getElem? (i := 63) rfl))) Via.refl e0 (EN.2.2.2.2.2.2.1.2.2.2.2.2.1.ext OL0.2) (g := (mkF m 1 #[.val (.ref (A 19))] [(.ref (A 19))])) rfl rfl (hb hby own_d_jdk_37_method_2_code_1)
  obtain ⟨fs, hr, hrun, hended, hW, hsame⟩ := X197.leave (v := some (.int (19 : Int32))) (fun h => by rw [Bd.returns] at h; cases h)
  refine ⟨_, _, pre0 _ ?_, hrun, hended, _, _, rfl, ?_, ⟨_, rfl⟩, hW, hsame.mono (by decide) (by decide)⟩
  · show Steps p.tables e below (s₁.setTop (mkF m 0 #[.val (.ref (A 19))] [])) _
    refine XS.aloadN X0.here hx rfl (hb hby own_d_jdk_37_method_2_code_0) rfl rfl ?_
    show Steps p.tables e below (s₁.setTop (mkF m 1 #[.val (.ref (A 19))] [(.ref (A 19))])) _
    refine st197 _ ?_
    show Steps p.tables e below (T197.setTop (mkF m 4 #[.val (.ref (A 19))] [(.int (19 : Int32))])) _
    exact retI X197 hx Bd.returns (hb hby own_d_jdk_37_method_2_code_4) hr
  · show PQ (some (.int (19 : Int32))) h0 n0 _ T197.heap _
    rw [e197]
    exact ⟨rfl, N0, rfl⟩
theorem own_ef_rm15 (m : MethodId) (p1 : Int32) (A : Nat → Addr) (K : Nat → ClassId)  : entryFrame m #[(.ref (A 19))] 2 = mkF m 0 #[.val (.ref (A 19)), .unset] [] := by first | (simp [entryFrame, mkF, argsToLocals, Value.category, maxLocals]; done) | rfl
set_option maxRecDepth 65536 in
set_option maxHeartbeats 40000000 in
theorem rm15 (l : Launch) (Z : State) (a0 : Array Value) (hw : ∀ d ∈ tables_1, d.before a0 Z = true) (ws : List Jvm.Cond) (h0 : Heap) (n0 : Nat) (p1 : Int32) (A : Nat → Addr) (K : Nat → ClassId)  (EN : own_St Z A K) (OL0 : Old Z n0 h0) :
    MetFree l own_m0 (head1 (Jvm.Cond.code own_m0 prog_32_method_2_code 2 (some (.object "com/example/dongl/dongl/core/ErrorCode")) :: ws) ({ frames := 1, cells := 0, slots := 0, locals := 13 } : Room)) (fun a U => a = #[(.ref (A 19))] ∧ Z.Warmed39 U.vm ∧ U.heap = h0) (fun _ _ _ _ _ => True) (fun _ U o U' => ∃ v L, o = .returned v ∧ (PQ (some (.ref (A 19))) h0 n0) v U'.heap L ∧ FrameEnd U o U' L ({ frames := 1, cells := 0, slots := 0, locals := 13 } : Room).cells ({ frames := 1, cells := 0, slots := 0, locals := 13 } : Room).slots) := by
  refine MetFree.of_bodySF (plainFor_of_name own_pn1) hisR ?_
  intro p e s m args below meth c s₁ Bd hml0 hP hK
  obtain ⟨rfl, hZ, hh⟩ := hP
  have hx := Bd.exec
  have hby := Bd.bytes
  have hml : c.maxLocals = 2 := hml0
  have hown : s.vm.findClass "com/example/dongl/dongl/server/ClientRefusals" = some m.cls := findClass_of_methodNamed Bd.named
  have hnm := (name_of_methodNamed Bd.named Bd.method).1
  have X0 : Stand p l e ({ frames := 1, cells := 0, slots := 0, locals := 13 } : Room) s m #[(.ref (A 19))] below meth c s₁ [] 0 0 := Stand.of_body Bd
  have e0 : s₁.heap = h0 := by rw [← hh, Bd.state]; rfl
  have N0 := Fr.nil n0
  have pre0 : ∀ t, Steps p.tables e below (s₁.setTop (mkF m 0 #[.val (.ref (A 19)), .unset] [])) t → Steps p.tables e below (s₁.setTop (entryFrame m #[(.ref (A 19))] 2)) t := fun t k => castTop (own_ef_rm15 m p1 A K ) k
  have KK0 : Keep h0 h0 [] := Keep.refl _ _
  obtain ⟨T196, X196, e196, st196⟩ := getS2 X0 hx hZ hown (host := "") (Or.inl (hw _ (List.mem_of_getElem? (i := 53) rfl))) Via.refl e0 (EN.2.2.2.2.2.1.2.2.2.2.1.ext OL0.2) (g := (mkF m 0 #[.val (.ref (A 19)), .unset] [])) rfl (hb hby own_d_prog_32_method_2_code_0)
  obtain ⟨cq198, kq198, q198a, q198b, q198c⟩ := isOf hZ e196 (EN.2.2.2.2.1.2.2.2.2.2.2.2.1.ext OL0.2)
  obtain ⟨_, _, ⟨T198, L198, k198, n198⟩, -, X198, ⟨Lc198, hQ198, l198, y198, z198⟩, st198⟩ := X196.virtualBackUp hx (x := own_m2) (y := own_m1) (owner := "java/lang/Enum") hown (mvT hZ (hw _ (List.mem_of_getElem? (i := 56) rfl))) (mvT hZ (hw _ (List.mem_of_getElem? (i := 57) rfl))) (mvT hZ (hw _ (List.mem_of_getElem? (i := 58) rfl))) (by decide) (mvT hZ (hw _ (List.mem_of_getElem? (i := 60) rfl))) (mvT hZ (hw _ (List.mem_of_getElem? (i := 59) rfl))) (backOf (W := 1) (rm16 l Z a0 hw [] h0 n0 p1 A K EN OL0) hZ (hw _ (List.mem_of_getElem? (i := 62) rfl)) (hw _ (List.mem_of_getElem? (i := 61) rfl)) (by decide) (by decide)) q198a q198c (g := (mkF m 4 #[.val (.ref (A 19)), .unset] [(.ref (A 19)), (.ref (A 22))])) rfl (by rw [hml]; rfl) (Steps.refl _) (argsL := []) (rest := [(.ref (A 22))]) (lenOf own_pd0 rfl) rfl (by show 2 * 0 + _ ≤ _; exact Nat.le_of_eq rfl) (hb hby own_d_prog_32_method_2_code_4) (fun _ _ => ⟨rfl, e196, (by decide : 0 + 0 ≤ _), (by decide : 0 + 0 ≤ _)⟩)
  dsimp only [Pt.U, Pt.locs, Pt.cells, Pt.slots] at X198 l198 y198 z198 st198 hQ198
  replace X198 := own_sub X198 l198 y198 z198
  obtain ⟨rfl, N198q, e198⟩ := hQ198
  have N198 := Fr.app N0 N198q
  obtain ⟨cl199, Ar199, q199, Sz199, Nn199, Hh199, Gg199⟩ := (id (EN.2.2.2.2.2.1.2.2.2.2.2.1.ext OL0.2))
  have hin199 : ¬ ((19 : Int32) < 0 ∨ cl199.slots.size ≤ ((19 : Int32)).toNatClampNeg) := inb_of Sz199 ⟨by decide, by decide⟩
  have hat199 : cl199.slots[((19 : Int32)).toNatClampNeg]? = some (.int (0 : Int32)) := Has.at Hh199 hin199 rfl
  obtain ⟨fs, hr, hrun, hended, hW, hsame⟩ := X198.leave (v := some (.ref (A 19))) (fun h => by rw [Bd.returns] at h; cases h)
  refine ⟨_, _, pre0 _ ?_, hrun, hended, _, _, rfl, ?_, ⟨_, rfl⟩, hW, hsame.mono (by decide) (by decide)⟩
  · show Steps p.tables e below (s₁.setTop (mkF m 0 #[.val (.ref (A 19)), .unset] [])) _
    refine st196 _ ?_
    show Steps p.tables e below (T196.setTop (mkF m 3 #[.val (.ref (A 19)), .unset] [(.ref (A 22))])) _
    refine XS.aloadN X196.here hx rfl (hb hby own_d_prog_32_method_2_code_3) rfl rfl ?_
    show Steps p.tables e below (T196.setTop (mkF m 4 #[.val (.ref (A 19)), .unset] [(.ref (A 19)), (.ref (A 22))])) _
    refine st198.trans ?_
    show Steps p.tables e below (T198.setTop (mkF m 7 #[.val (.ref (A 19)), .unset] [(.int (19 : Int32)), (.ref (A 22))])) _
    refine X198.iaload hx (j := (19 : Int32)) (v := (.int (0 : Int32))) (by rw [e198]; exact Ar199.1) (State.isArrayOf_alike hZ.alike Ar199.2.1) Ar199.2.2 hin199 hat199 (g := (mkF m 7 #[.val (.ref (A 19)), .unset] [(.int (19 : Int32)), (.ref (A 22))])) rfl rfl (hb hby own_d_prog_32_method_2_code_7) _ ?_
    show Steps p.tables e below (T198.setTop (mkF m 8 #[.val (.ref (A 19)), .unset] [(.int (0 : Int32))])) _
    refine XS.tswOut X198.here hx rfl (pc0 := 8) (pc' := 82) rfl (hb hby own_d_prog_32_method_2_code_8) rfl (by decide) (by decide) (by decide) ?_
    show Steps p.tables e below (T198.setTop (mkF m 82 #[.val (.ref (A 19)), .unset] [])) _
    refine XS.aloadN X198.here hx rfl (hb hby own_d_prog_32_method_2_code_82) rfl rfl ?_
    show Steps p.tables e below (T198.setTop (mkF m 83 #[.val (.ref (A 19)), .unset] [(.ref (A 19))])) _
    refine XS.astoreN X198.here hx rfl (hb hby own_d_prog_32_method_2_code_83) rfl rfl (l' := #[.val (.ref (A 19)), .val (.ref (A 19))]) rfl ?_
    show Steps p.tables e below (T198.setTop (mkF m 84 #[.val (.ref (A 19)), .val (.ref (A 19))] [])) _
    refine XS.aloadN X198.here hx rfl (hb hby own_d_prog_32_method_2_code_84) rfl rfl ?_
    show Steps p.tables e below (T198.setTop (mkF m 85 #[.val (.ref (A 19)), .val (.ref (A 19))] [(.ref (A 19))])) _
    exact retOut X198 hx Bd.returns rfl (Or.inr (Or.inr (Or.inr (Or.inr ⟨rfl, rfl, rfl⟩)))) (hb hby own_d_prog_32_method_2_code_85) hr
  · show PQ (some (.ref (A 19))) h0 n0 _ T198.heap _
    rw [e198]
    exact ⟨rfl, N198, rfl⟩
theorem own_ef_rm18 (m : MethodId) (p1 : Int32) (A : Nat → Addr) (K : Nat → ClassId)  : entryFrame m #[(.ref (A 6))] 1 = mkF m 0 #[.val (.ref (A 6))] [] := by first | (simp [entryFrame, mkF, argsToLocals, Value.category, maxLocals]; done) | rfl
set_option maxRecDepth 65536 in
set_option maxHeartbeats 40000000 in
theorem rm18 (l : Launch) (Z : State) (a0 : Array Value) (hw : ∀ d ∈ tables_1, d.before a0 Z = true) (ws : List Jvm.Cond) (h0 : Heap) (n0 : Nat) (p1 : Int32) (A : Nat → Addr) (K : Nat → ClassId)  (EN : own_St Z A K) (OL0 : Old Z n0 h0) :
    MetFree l own_m1 (head1 (Jvm.Cond.code own_m1 jdk_37_method_2_code 1 (some .int) :: ws) ({ frames := 0, cells := 0, slots := 0, locals := 0 } : Room)) (fun a U => a = #[(.ref (A 6))] ∧ Z.Warmed39 U.vm ∧ U.heap = h0) (fun _ _ _ _ _ => True) (fun _ U o U' => ∃ v L, o = .returned v ∧ (PQ (some (.int (6 : Int32))) h0 n0) v U'.heap L ∧ FrameEnd U o U' L ({ frames := 0, cells := 0, slots := 0, locals := 0 } : Room).cells ({ frames := 0, cells := 0, slots := 0, locals := 0 } : Room).slots) := by
  refine MetFree.of_bodySF (plainFor_of_name own_pn0) hisR ?_
  intro p e s m args below meth c s₁ Bd hml0 hP hK
  obtain ⟨rfl, hZ, hh⟩ := hP
  have hx := Bd.exec
  have hby := Bd.bytes
  have hml : c.maxLocals = 1 := hml0
  have hown : s.vm.findClass "java/lang/Enum" = some m.cls := findClass_of_methodNamed Bd.named
  have hnm := (name_of_methodNamed Bd.named Bd.method).1
  have X0 : Stand p l e ({ frames := 0, cells := 0, slots := 0, locals := 0 } : Room) s m #[(.ref (A 6))] below meth c s₁ [] 0 0 := Stand.of_body Bd
  have e0 : s₁.heap = h0 := by rw [← hh, Bd.state]; rfl
  have N0 := Fr.nil n0
  have pre0 : ∀ t, Steps p.tables e below (s₁.setTop (mkF m 0 #[.val (.ref (A 6))] [])) t → Steps p.tables e below (s₁.setTop (entryFrame m #[(.ref (A 6))] 1)) t := fun t k => castTop (own_ef_rm18 m p1 A K ) k
  have KK0 : Keep h0 h0 [] := Keep.refl _ _
  obtain ⟨T204, X204, e204, st204⟩ := getF X0 hx hZ hown (host := "") (Or.inl (hw _ (List.mem_of_getElem? (i := 63) rfl))) Via.refl e0 (EN.2.2.2.2.2.2.2.1.2.2.2.1.ext OL0.2) (g := (mkF m 1 #[.val (.ref (A 6))] [(.ref (A 6))])) rfl rfl (hb hby own_d_jdk_37_method_2_code_1)
  obtain ⟨fs, hr, hrun, hended, hW, hsame⟩ := X204.leave (v := some (.int (6 : Int32))) (fun h => by rw [Bd.returns] at h; cases h)
  refine ⟨_, _, pre0 _ ?_, hrun, hended, _, _, rfl, ?_, ⟨_, rfl⟩, hW, hsame.mono (by decide) (by decide)⟩
  · show Steps p.tables e below (s₁.setTop (mkF m 0 #[.val (.ref (A 6))] [])) _
    refine XS.aloadN X0.here hx rfl (hb hby own_d_jdk_37_method_2_code_0) rfl rfl ?_
    show Steps p.tables e below (s₁.setTop (mkF m 1 #[.val (.ref (A 6))] [(.ref (A 6))])) _
    refine st204 _ ?_
    show Steps p.tables e below (T204.setTop (mkF m 4 #[.val (.ref (A 6))] [(.int (6 : Int32))])) _
    exact retI X204 hx Bd.returns (hb hby own_d_jdk_37_method_2_code_4) hr
  · show PQ (some (.int (6 : Int32))) h0 n0 _ T204.heap _
    rw [e204]
    exact ⟨rfl, N0, rfl⟩
theorem own_ef_rm17 (m : MethodId) (p1 : Int32) (A : Nat → Addr) (K : Nat → ClassId)  : entryFrame m #[(.ref (A 6))] 2 = mkF m 0 #[.val (.ref (A 6)), .unset] [] := by first | (simp [entryFrame, mkF, argsToLocals, Value.category, maxLocals]; done) | rfl
set_option maxRecDepth 65536 in
set_option maxHeartbeats 40000000 in
theorem rm17 (l : Launch) (Z : State) (a0 : Array Value) (hw : ∀ d ∈ tables_1, d.before a0 Z = true) (ws : List Jvm.Cond) (h0 : Heap) (n0 : Nat) (p1 : Int32) (A : Nat → Addr) (K : Nat → ClassId)  (EN : own_St Z A K) (OL0 : Old Z n0 h0) :
    MetFree l own_m0 (head1 (Jvm.Cond.code own_m0 prog_32_method_2_code 2 (some (.object "com/example/dongl/dongl/core/ErrorCode")) :: ws) ({ frames := 1, cells := 0, slots := 0, locals := 13 } : Room)) (fun a U => a = #[(.ref (A 6))] ∧ Z.Warmed39 U.vm ∧ U.heap = h0) (fun _ _ _ _ _ => True) (fun _ U o U' => ∃ v L, o = .returned v ∧ (PQ (some (.ref (A 6))) h0 n0) v U'.heap L ∧ FrameEnd U o U' L ({ frames := 1, cells := 0, slots := 0, locals := 13 } : Room).cells ({ frames := 1, cells := 0, slots := 0, locals := 13 } : Room).slots) := by
  refine MetFree.of_bodySF (plainFor_of_name own_pn1) hisR ?_
  intro p e s m args below meth c s₁ Bd hml0 hP hK
  obtain ⟨rfl, hZ, hh⟩ := hP
  have hx := Bd.exec
  have hby := Bd.bytes
  have hml : c.maxLocals = 2 := hml0
  have hown : s.vm.findClass "com/example/dongl/dongl/server/ClientRefusals" = some m.cls := findClass_of_methodNamed Bd.named
  have hnm := (name_of_methodNamed Bd.named Bd.method).1
  have X0 : Stand p l e ({ frames := 1, cells := 0, slots := 0, locals := 13 } : Room) s m #[(.ref (A 6))] below meth c s₁ [] 0 0 := Stand.of_body Bd
  have e0 : s₁.heap = h0 := by rw [← hh, Bd.state]; rfl
  have N0 := Fr.nil n0
  have pre0 : ∀ t, Steps p.tables e below (s₁.setTop (mkF m 0 #[.val (.ref (A 6)), .unset] [])) t → Steps p.tables e below (s₁.setTop (entryFrame m #[(.ref (A 6))] 2)) t := fun t k => castTop (own_ef_rm17 m p1 A K ) k
  have KK0 : Keep h0 h0 [] := Keep.refl _ _
  obtain ⟨T203, X203, e203, st203⟩ := getS2 X0 hx hZ hown (host := "") (Or.inl (hw _ (List.mem_of_getElem? (i := 53) rfl))) Via.refl e0 (EN.2.2.2.2.2.1.2.2.2.2.1.ext OL0.2) (g := (mkF m 0 #[.val (.ref (A 6)), .unset] [])) rfl (hb hby own_d_prog_32_method_2_code_0)
  obtain ⟨cq205, kq205, q205a, q205b, q205c⟩ := isOf hZ e203 (EN.2.1.2.2.2.2.2.1.ext OL0.2)
  obtain ⟨_, _, ⟨T205, L205, k205, n205⟩, -, X205, ⟨Lc205, hQ205, l205, y205, z205⟩, st205⟩ := X203.virtualBackUp hx (x := own_m2) (y := own_m1) (owner := "java/lang/Enum") hown (mvT hZ (hw _ (List.mem_of_getElem? (i := 56) rfl))) (mvT hZ (hw _ (List.mem_of_getElem? (i := 57) rfl))) (mvT hZ (hw _ (List.mem_of_getElem? (i := 58) rfl))) (by decide) (mvT hZ (hw _ (List.mem_of_getElem? (i := 60) rfl))) (mvT hZ (hw _ (List.mem_of_getElem? (i := 59) rfl))) (backOf (W := 1) (rm18 l Z a0 hw [] h0 n0 p1 A K EN OL0) hZ (hw _ (List.mem_of_getElem? (i := 62) rfl)) (hw _ (List.mem_of_getElem? (i := 61) rfl)) (by decide) (by decide)) q205a q205c (g := (mkF m 4 #[.val (.ref (A 6)), .unset] [(.ref (A 6)), (.ref (A 22))])) rfl (by rw [hml]; rfl) (Steps.refl _) (argsL := []) (rest := [(.ref (A 22))]) (lenOf own_pd0 rfl) rfl (by show 2 * 0 + _ ≤ _; exact Nat.le_of_eq rfl) (hb hby own_d_prog_32_method_2_code_4) (fun _ _ => ⟨rfl, e203, (by decide : 0 + 0 ≤ _), (by decide : 0 + 0 ≤ _)⟩)
  dsimp only [Pt.U, Pt.locs, Pt.cells, Pt.slots] at X205 l205 y205 z205 st205 hQ205
  replace X205 := own_sub X205 l205 y205 z205
  obtain ⟨rfl, N205q, e205⟩ := hQ205
  have N205 := Fr.app N0 N205q
  obtain ⟨cl206, Ar206, q206, Sz206, Nn206, Hh206, Gg206⟩ := (id (EN.2.2.2.2.2.1.2.2.2.2.2.1.ext OL0.2))
  have hin206 : ¬ ((6 : Int32) < 0 ∨ cl206.slots.size ≤ ((6 : Int32)).toNatClampNeg) := inb_of Sz206 ⟨by decide, by decide⟩
  have hat206 : cl206.slots[((6 : Int32)).toNatClampNeg]? = some (.int (0 : Int32)) := Has.at Hh206 hin206 rfl
  obtain ⟨fs, hr, hrun, hended, hW, hsame⟩ := X205.leave (v := some (.ref (A 6))) (fun h => by rw [Bd.returns] at h; cases h)
  refine ⟨_, _, pre0 _ ?_, hrun, hended, _, _, rfl, ?_, ⟨_, rfl⟩, hW, hsame.mono (by decide) (by decide)⟩
  · show Steps p.tables e below (s₁.setTop (mkF m 0 #[.val (.ref (A 6)), .unset] [])) _
    refine st203 _ ?_
    show Steps p.tables e below (T203.setTop (mkF m 3 #[.val (.ref (A 6)), .unset] [(.ref (A 22))])) _
    refine XS.aloadN X203.here hx rfl (hb hby own_d_prog_32_method_2_code_3) rfl rfl ?_
    show Steps p.tables e below (T203.setTop (mkF m 4 #[.val (.ref (A 6)), .unset] [(.ref (A 6)), (.ref (A 22))])) _
    refine st205.trans ?_
    show Steps p.tables e below (T205.setTop (mkF m 7 #[.val (.ref (A 6)), .unset] [(.int (6 : Int32)), (.ref (A 22))])) _
    refine X205.iaload hx (j := (6 : Int32)) (v := (.int (0 : Int32))) (by rw [e205]; exact Ar206.1) (State.isArrayOf_alike hZ.alike Ar206.2.1) Ar206.2.2 hin206 hat206 (g := (mkF m 7 #[.val (.ref (A 6)), .unset] [(.int (6 : Int32)), (.ref (A 22))])) rfl rfl (hb hby own_d_prog_32_method_2_code_7) _ ?_
    show Steps p.tables e below (T205.setTop (mkF m 8 #[.val (.ref (A 6)), .unset] [(.int (0 : Int32))])) _
    refine XS.tswOut X205.here hx rfl (pc0 := 8) (pc' := 82) rfl (hb hby own_d_prog_32_method_2_code_8) rfl (by decide) (by decide) (by decide) ?_
    show Steps p.tables e below (T205.setTop (mkF m 82 #[.val (.ref (A 6)), .unset] [])) _
    refine XS.aloadN X205.here hx rfl (hb hby own_d_prog_32_method_2_code_82) rfl rfl ?_
    show Steps p.tables e below (T205.setTop (mkF m 83 #[.val (.ref (A 6)), .unset] [(.ref (A 6))])) _
    refine XS.astoreN X205.here hx rfl (hb hby own_d_prog_32_method_2_code_83) rfl rfl (l' := #[.val (.ref (A 6)), .val (.ref (A 6))]) rfl ?_
    show Steps p.tables e below (T205.setTop (mkF m 84 #[.val (.ref (A 6)), .val (.ref (A 6))] [])) _
    refine XS.aloadN X205.here hx rfl (hb hby own_d_prog_32_method_2_code_84) rfl rfl ?_
    show Steps p.tables e below (T205.setTop (mkF m 85 #[.val (.ref (A 6)), .val (.ref (A 6))] [(.ref (A 6))])) _
    exact retOut X205 hx Bd.returns rfl (Or.inr (Or.inr (Or.inr (Or.inr ⟨rfl, rfl, rfl⟩)))) (hb hby own_d_prog_32_method_2_code_85) hr
  · show PQ (some (.ref (A 6))) h0 n0 _ T205.heap _
    rw [e205]
    exact ⟨rfl, N205, rfl⟩
theorem own_ef_rm20 (m : MethodId) (p1 : Int32) (A : Nat → Addr) (K : Nat → ClassId)  : entryFrame m #[(.ref (A 7))] 1 = mkF m 0 #[.val (.ref (A 7))] [] := by first | (simp [entryFrame, mkF, argsToLocals, Value.category, maxLocals]; done) | rfl
set_option maxRecDepth 65536 in
set_option maxHeartbeats 40000000 in
theorem rm20 (l : Launch) (Z : State) (a0 : Array Value) (hw : ∀ d ∈ tables_1, d.before a0 Z = true) (ws : List Jvm.Cond) (h0 : Heap) (n0 : Nat) (p1 : Int32) (A : Nat → Addr) (K : Nat → ClassId)  (EN : own_St Z A K) (OL0 : Old Z n0 h0) :
    MetFree l own_m1 (head1 (Jvm.Cond.code own_m1 jdk_37_method_2_code 1 (some .int) :: ws) ({ frames := 0, cells := 0, slots := 0, locals := 0 } : Room)) (fun a U => a = #[(.ref (A 7))] ∧ Z.Warmed39 U.vm ∧ U.heap = h0) (fun _ _ _ _ _ => True) (fun _ U o U' => ∃ v L, o = .returned v ∧ (PQ (some (.int (7 : Int32))) h0 n0) v U'.heap L ∧ FrameEnd U o U' L ({ frames := 0, cells := 0, slots := 0, locals := 0 } : Room).cells ({ frames := 0, cells := 0, slots := 0, locals := 0 } : Room).slots) := by
  refine MetFree.of_bodySF (plainFor_of_name own_pn0) hisR ?_
  intro p e s m args below meth c s₁ Bd hml0 hP hK
  obtain ⟨rfl, hZ, hh⟩ := hP
  have hx := Bd.exec
  have hby := Bd.bytes
  have hml : c.maxLocals = 1 := hml0
  have hown : s.vm.findClass "java/lang/Enum" = some m.cls := findClass_of_methodNamed Bd.named
  have hnm := (name_of_methodNamed Bd.named Bd.method).1
  have X0 : Stand p l e ({ frames := 0, cells := 0, slots := 0, locals := 0 } : Room) s m #[(.ref (A 7))] below meth c s₁ [] 0 0 := Stand.of_body Bd
  have e0 : s₁.heap = h0 := by rw [← hh, Bd.state]; rfl
  have N0 := Fr.nil n0
  have pre0 : ∀ t, Steps p.tables e below (s₁.setTop (mkF m 0 #[.val (.ref (A 7))] [])) t → Steps p.tables e below (s₁.setTop (entryFrame m #[(.ref (A 7))] 1)) t := fun t k => castTop (own_ef_rm20 m p1 A K ) k
  have KK0 : Keep h0 h0 [] := Keep.refl _ _
  obtain ⟨T213, X213, e213, st213⟩ := getF X0 hx hZ hown (host := "") (Or.inl (hw _ (List.mem_of_getElem? (i := 63) rfl))) Via.refl e0 (EN.2.2.2.2.2.2.1.2.1.ext OL0.2) (g := (mkF m 1 #[.val (.ref (A 7))] [(.ref (A 7))])) rfl rfl (hb hby own_d_jdk_37_method_2_code_1)
  obtain ⟨fs, hr, hrun, hended, hW, hsame⟩ := X213.leave (v := some (.int (7 : Int32))) (fun h => by rw [Bd.returns] at h; cases h)
  refine ⟨_, _, pre0 _ ?_, hrun, hended, _, _, rfl, ?_, ⟨_, rfl⟩, hW, hsame.mono (by decide) (by decide)⟩
  · show Steps p.tables e below (s₁.setTop (mkF m 0 #[.val (.ref (A 7))] [])) _
    refine XS.aloadN X0.here hx rfl (hb hby own_d_jdk_37_method_2_code_0) rfl rfl ?_
    show Steps p.tables e below (s₁.setTop (mkF m 1 #[.val (.ref (A 7))] [(.ref (A 7))])) _
    refine st213 _ ?_
    show Steps p.tables e below (T213.setTop (mkF m 4 #[.val (.ref (A 7))] [(.int (7 : Int32))])) _
    exact retI X213 hx Bd.returns (hb hby own_d_jdk_37_method_2_code_4) hr
  · show PQ (some (.int (7 : Int32))) h0 n0 _ T213.heap _
    rw [e213]
    exact ⟨rfl, N0, rfl⟩
theorem own_ef_rm19 (m : MethodId) (p1 : Int32) (A : Nat → Addr) (K : Nat → ClassId)  : entryFrame m #[(.ref (A 7))] 2 = mkF m 0 #[.val (.ref (A 7)), .unset] [] := by first | (simp [entryFrame, mkF, argsToLocals, Value.category, maxLocals]; done) | rfl
set_option maxRecDepth 65536 in
set_option maxHeartbeats 40000000 in
theorem rm19 (l : Launch) (Z : State) (a0 : Array Value) (hw : ∀ d ∈ tables_1, d.before a0 Z = true) (ws : List Jvm.Cond) (h0 : Heap) (n0 : Nat) (p1 : Int32) (A : Nat → Addr) (K : Nat → ClassId)  (EN : own_St Z A K) (OL0 : Old Z n0 h0) :
    MetFree l own_m0 (head1 (Jvm.Cond.code own_m0 prog_32_method_2_code 2 (some (.object "com/example/dongl/dongl/core/ErrorCode")) :: ws) ({ frames := 1, cells := 0, slots := 0, locals := 13 } : Room)) (fun a U => a = #[(.ref (A 7))] ∧ Z.Warmed39 U.vm ∧ U.heap = h0) (fun _ _ _ _ _ => True) (fun _ U o U' => ∃ v L, o = .returned v ∧ (PQ (some (.ref (A 7))) h0 n0) v U'.heap L ∧ FrameEnd U o U' L ({ frames := 1, cells := 0, slots := 0, locals := 13 } : Room).cells ({ frames := 1, cells := 0, slots := 0, locals := 13 } : Room).slots) := by
  refine MetFree.of_bodySF (plainFor_of_name own_pn1) hisR ?_
  intro p e s m args below meth c s₁ Bd hml0 hP hK
  obtain ⟨rfl, hZ, hh⟩ := hP
  have hx := Bd.exec
  have hby := Bd.bytes
  have hml : c.maxLocals = 2 := hml0
  have hown : s.vm.findClass "com/example/dongl/dongl/server/ClientRefusals" = some m.cls := findClass_of_methodNamed Bd.named
  have hnm := (name_of_methodNamed Bd.named Bd.method).1
  have X0 : Stand p l e ({ frames := 1, cells := 0, slots := 0, locals := 13 } : Room) s m #[(.ref (A 7))] below meth c s₁ [] 0 0 := Stand.of_body Bd
  have e0 : s₁.heap = h0 := by rw [← hh, Bd.state]; rfl
  have N0 := Fr.nil n0
  have pre0 : ∀ t, Steps p.tables e below (s₁.setTop (mkF m 0 #[.val (.ref (A 7)), .unset] [])) t → Steps p.tables e below (s₁.setTop (entryFrame m #[(.ref (A 7))] 2)) t := fun t k => castTop (own_ef_rm19 m p1 A K ) k
  have KK0 : Keep h0 h0 [] := Keep.refl _ _
  obtain ⟨T212, X212, e212, st212⟩ := getS2 X0 hx hZ hown (host := "") (Or.inl (hw _ (List.mem_of_getElem? (i := 53) rfl))) Via.refl e0 (EN.2.2.2.2.2.1.2.2.2.2.1.ext OL0.2) (g := (mkF m 0 #[.val (.ref (A 7)), .unset] [])) rfl (hb hby own_d_prog_32_method_2_code_0)
  obtain ⟨cq214, kq214, q214a, q214b, q214c⟩ := isOf hZ e212 (EN.2.1.2.2.2.2.2.2.2.1.ext OL0.2)
  obtain ⟨_, _, ⟨T214, L214, k214, n214⟩, -, X214, ⟨Lc214, hQ214, l214, y214, z214⟩, st214⟩ := X212.virtualBackUp hx (x := own_m2) (y := own_m1) (owner := "java/lang/Enum") hown (mvT hZ (hw _ (List.mem_of_getElem? (i := 56) rfl))) (mvT hZ (hw _ (List.mem_of_getElem? (i := 57) rfl))) (mvT hZ (hw _ (List.mem_of_getElem? (i := 58) rfl))) (by decide) (mvT hZ (hw _ (List.mem_of_getElem? (i := 60) rfl))) (mvT hZ (hw _ (List.mem_of_getElem? (i := 59) rfl))) (backOf (W := 1) (rm20 l Z a0 hw [] h0 n0 p1 A K EN OL0) hZ (hw _ (List.mem_of_getElem? (i := 62) rfl)) (hw _ (List.mem_of_getElem? (i := 61) rfl)) (by decide) (by decide)) q214a q214c (g := (mkF m 4 #[.val (.ref (A 7)), .unset] [(.ref (A 7)), (.ref (A 22))])) rfl (by rw [hml]; rfl) (Steps.refl _) (argsL := []) (rest := [(.ref (A 22))]) (lenOf own_pd0 rfl) rfl (by show 2 * 0 + _ ≤ _; exact Nat.le_of_eq rfl) (hb hby own_d_prog_32_method_2_code_4) (fun _ _ => ⟨rfl, e212, (by decide : 0 + 0 ≤ _), (by decide : 0 + 0 ≤ _)⟩)
  dsimp only [Pt.U, Pt.locs, Pt.cells, Pt.slots] at X214 l214 y214 z214 st214 hQ214
  replace X214 := own_sub X214 l214 y214 z214
  obtain ⟨rfl, N214q, e214⟩ := hQ214
  have N214 := Fr.app N0 N214q
  obtain ⟨cl215, Ar215, q215, Sz215, Nn215, Hh215, Gg215⟩ := (id (EN.2.2.2.2.2.1.2.2.2.2.2.1.ext OL0.2))
  have hin215 : ¬ ((7 : Int32) < 0 ∨ cl215.slots.size ≤ ((7 : Int32)).toNatClampNeg) := inb_of Sz215 ⟨by decide, by decide⟩
  have hat215 : cl215.slots[((7 : Int32)).toNatClampNeg]? = some (.int (0 : Int32)) := Has.at Hh215 hin215 rfl
  obtain ⟨fs, hr, hrun, hended, hW, hsame⟩ := X214.leave (v := some (.ref (A 7))) (fun h => by rw [Bd.returns] at h; cases h)
  refine ⟨_, _, pre0 _ ?_, hrun, hended, _, _, rfl, ?_, ⟨_, rfl⟩, hW, hsame.mono (by decide) (by decide)⟩
  · show Steps p.tables e below (s₁.setTop (mkF m 0 #[.val (.ref (A 7)), .unset] [])) _
    refine st212 _ ?_
    show Steps p.tables e below (T212.setTop (mkF m 3 #[.val (.ref (A 7)), .unset] [(.ref (A 22))])) _
    refine XS.aloadN X212.here hx rfl (hb hby own_d_prog_32_method_2_code_3) rfl rfl ?_
    show Steps p.tables e below (T212.setTop (mkF m 4 #[.val (.ref (A 7)), .unset] [(.ref (A 7)), (.ref (A 22))])) _
    refine st214.trans ?_
    show Steps p.tables e below (T214.setTop (mkF m 7 #[.val (.ref (A 7)), .unset] [(.int (7 : Int32)), (.ref (A 22))])) _
    refine X214.iaload hx (j := (7 : Int32)) (v := (.int (0 : Int32))) (by rw [e214]; exact Ar215.1) (State.isArrayOf_alike hZ.alike Ar215.2.1) Ar215.2.2 hin215 hat215 (g := (mkF m 7 #[.val (.ref (A 7)), .unset] [(.int (7 : Int32)), (.ref (A 22))])) rfl rfl (hb hby own_d_prog_32_method_2_code_7) _ ?_
    show Steps p.tables e below (T214.setTop (mkF m 8 #[.val (.ref (A 7)), .unset] [(.int (0 : Int32))])) _
    refine XS.tswOut X214.here hx rfl (pc0 := 8) (pc' := 82) rfl (hb hby own_d_prog_32_method_2_code_8) rfl (by decide) (by decide) (by decide) ?_
    show Steps p.tables e below (T214.setTop (mkF m 82 #[.val (.ref (A 7)), .unset] [])) _
    refine XS.aloadN X214.here hx rfl (hb hby own_d_prog_32_method_2_code_82) rfl rfl ?_
    show Steps p.tables e below (T214.setTop (mkF m 83 #[.val (.ref (A 7)), .unset] [(.ref (A 7))])) _
    refine XS.astoreN X214.here hx rfl (hb hby own_d_prog_32_method_2_code_83) rfl rfl (l' := #[.val (.ref (A 7)), .val (.ref (A 7))]) rfl ?_
    show Steps p.tables e below (T214.setTop (mkF m 84 #[.val (.ref (A 7)), .val (.ref (A 7))] [])) _
    refine XS.aloadN X214.here hx rfl (hb hby own_d_prog_32_method_2_code_84) rfl rfl ?_
    show Steps p.tables e below (T214.setTop (mkF m 85 #[.val (.ref (A 7)), .val (.ref (A 7))] [(.ref (A 7))])) _
    exact retOut X214 hx Bd.returns rfl (Or.inr (Or.inr (Or.inr (Or.inr ⟨rfl, rfl, rfl⟩)))) (hb hby own_d_prog_32_method_2_code_85) hr
  · show PQ (some (.ref (A 7))) h0 n0 _ T214.heap _
    rw [e214]
    exact ⟨rfl, N214, rfl⟩
theorem own_ef_rm22 (m : MethodId) (p1 : Int32) (A : Nat → Addr) (K : Nat → ClassId)  : entryFrame m #[(.ref (A 8))] 1 = mkF m 0 #[.val (.ref (A 8))] [] := by first | (simp [entryFrame, mkF, argsToLocals, Value.category, maxLocals]; done) | rfl
set_option maxRecDepth 65536 in
set_option maxHeartbeats 40000000 in
theorem rm22 (l : Launch) (Z : State) (a0 : Array Value) (hw : ∀ d ∈ tables_1, d.before a0 Z = true) (ws : List Jvm.Cond) (h0 : Heap) (n0 : Nat) (p1 : Int32) (A : Nat → Addr) (K : Nat → ClassId)  (EN : own_St Z A K) (OL0 : Old Z n0 h0) :
    MetFree l own_m1 (head1 (Jvm.Cond.code own_m1 jdk_37_method_2_code 1 (some .int) :: ws) ({ frames := 0, cells := 0, slots := 0, locals := 0 } : Room)) (fun a U => a = #[(.ref (A 8))] ∧ Z.Warmed39 U.vm ∧ U.heap = h0) (fun _ _ _ _ _ => True) (fun _ U o U' => ∃ v L, o = .returned v ∧ (PQ (some (.int (8 : Int32))) h0 n0) v U'.heap L ∧ FrameEnd U o U' L ({ frames := 0, cells := 0, slots := 0, locals := 0 } : Room).cells ({ frames := 0, cells := 0, slots := 0, locals := 0 } : Room).slots) := by
  refine MetFree.of_bodySF (plainFor_of_name own_pn0) hisR ?_
  intro p e s m args below meth c s₁ Bd hml0 hP hK
  obtain ⟨rfl, hZ, hh⟩ := hP
  have hx := Bd.exec
  have hby := Bd.bytes
  have hml : c.maxLocals = 1 := hml0
  have hown : s.vm.findClass "java/lang/Enum" = some m.cls := findClass_of_methodNamed Bd.named
  have hnm := (name_of_methodNamed Bd.named Bd.method).1
  have X0 : Stand p l e ({ frames := 0, cells := 0, slots := 0, locals := 0 } : Room) s m #[(.ref (A 8))] below meth c s₁ [] 0 0 := Stand.of_body Bd
  have e0 : s₁.heap = h0 := by rw [← hh, Bd.state]; rfl
  have N0 := Fr.nil n0
  have pre0 : ∀ t, Steps p.tables e below (s₁.setTop (mkF m 0 #[.val (.ref (A 8))] [])) t → Steps p.tables e below (s₁.setTop (entryFrame m #[(.ref (A 8))] 1)) t := fun t k => castTop (own_ef_rm22 m p1 A K ) k
  have KK0 : Keep h0 h0 [] := Keep.refl _ _
  obtain ⟨T222, X222, e222, st222⟩ := getF X0 hx hZ hown (host := "") (Or.inl (hw _ (List.mem_of_getElem? (i := 63) rfl))) Via.refl e0 (EN.2.2.2.2.2.2.1.2.2.1.ext OL0.2) (g := (mkF m 1 #[.val (.ref (A 8))] [(.ref (A 8))])) rfl rfl (hb hby own_d_jdk_37_method_2_code_1)
  obtain ⟨fs, hr, hrun, hended, hW, hsame⟩ := X222.leave (v := some (.int (8 : Int32))) (fun h => by rw [Bd.returns] at h; cases h)
  refine ⟨_, _, pre0 _ ?_, hrun, hended, _, _, rfl, ?_, ⟨_, rfl⟩, hW, hsame.mono (by decide) (by decide)⟩
  · show Steps p.tables e below (s₁.setTop (mkF m 0 #[.val (.ref (A 8))] [])) _
    refine XS.aloadN X0.here hx rfl (hb hby own_d_jdk_37_method_2_code_0) rfl rfl ?_
    show Steps p.tables e below (s₁.setTop (mkF m 1 #[.val (.ref (A 8))] [(.ref (A 8))])) _
    refine st222 _ ?_
    show Steps p.tables e below (T222.setTop (mkF m 4 #[.val (.ref (A 8))] [(.int (8 : Int32))])) _
    exact retI X222 hx Bd.returns (hb hby own_d_jdk_37_method_2_code_4) hr
  · show PQ (some (.int (8 : Int32))) h0 n0 _ T222.heap _
    rw [e222]
    exact ⟨rfl, N0, rfl⟩
theorem own_ef_rm21 (m : MethodId) (p1 : Int32) (A : Nat → Addr) (K : Nat → ClassId)  : entryFrame m #[(.ref (A 8))] 2 = mkF m 0 #[.val (.ref (A 8)), .unset] [] := by first | (simp [entryFrame, mkF, argsToLocals, Value.category, maxLocals]; done) | rfl
set_option maxRecDepth 65536 in
set_option maxHeartbeats 40000000 in
theorem rm21 (l : Launch) (Z : State) (a0 : Array Value) (hw : ∀ d ∈ tables_1, d.before a0 Z = true) (ws : List Jvm.Cond) (h0 : Heap) (n0 : Nat) (p1 : Int32) (A : Nat → Addr) (K : Nat → ClassId)  (EN : own_St Z A K) (OL0 : Old Z n0 h0) :
    MetFree l own_m0 (head1 (Jvm.Cond.code own_m0 prog_32_method_2_code 2 (some (.object "com/example/dongl/dongl/core/ErrorCode")) :: ws) ({ frames := 1, cells := 0, slots := 0, locals := 13 } : Room)) (fun a U => a = #[(.ref (A 8))] ∧ Z.Warmed39 U.vm ∧ U.heap = h0) (fun _ _ _ _ _ => True) (fun _ U o U' => ∃ v L, o = .returned v ∧ (PQ (some (.ref (A 20))) h0 n0) v U'.heap L ∧ FrameEnd U o U' L ({ frames := 1, cells := 0, slots := 0, locals := 13 } : Room).cells ({ frames := 1, cells := 0, slots := 0, locals := 13 } : Room).slots) := by
  refine MetFree.of_bodySF (plainFor_of_name own_pn1) hisR ?_
  intro p e s m args below meth c s₁ Bd hml0 hP hK
  obtain ⟨rfl, hZ, hh⟩ := hP
  have hx := Bd.exec
  have hby := Bd.bytes
  have hml : c.maxLocals = 2 := hml0
  have hown : s.vm.findClass "com/example/dongl/dongl/server/ClientRefusals" = some m.cls := findClass_of_methodNamed Bd.named
  have hnm := (name_of_methodNamed Bd.named Bd.method).1
  have X0 : Stand p l e ({ frames := 1, cells := 0, slots := 0, locals := 13 } : Room) s m #[(.ref (A 8))] below meth c s₁ [] 0 0 := Stand.of_body Bd
  have e0 : s₁.heap = h0 := by rw [← hh, Bd.state]; rfl
  have N0 := Fr.nil n0
  have pre0 : ∀ t, Steps p.tables e below (s₁.setTop (mkF m 0 #[.val (.ref (A 8)), .unset] [])) t → Steps p.tables e below (s₁.setTop (entryFrame m #[(.ref (A 8))] 2)) t := fun t k => castTop (own_ef_rm21 m p1 A K ) k
  have KK0 : Keep h0 h0 [] := Keep.refl _ _
  obtain ⟨T221, X221, e221, st221⟩ := getS2 X0 hx hZ hown (host := "") (Or.inl (hw _ (List.mem_of_getElem? (i := 53) rfl))) Via.refl e0 (EN.2.2.2.2.2.1.2.2.2.2.1.ext OL0.2) (g := (mkF m 0 #[.val (.ref (A 8)), .unset] [])) rfl (hb hby own_d_prog_32_method_2_code_0)
  obtain ⟨cq223, kq223, q223a, q223b, q223c⟩ := isOf hZ e221 (EN.2.2.1.2.1.ext OL0.2)
  obtain ⟨_, _, ⟨T223, L223, k223, n223⟩, -, X223, ⟨Lc223, hQ223, l223, y223, z223⟩, st223⟩ := X221.virtualBackUp hx (x := own_m2) (y := own_m1) (owner := "java/lang/Enum") hown (mvT hZ (hw _ (List.mem_of_getElem? (i := 56) rfl))) (mvT hZ (hw _ (List.mem_of_getElem? (i := 57) rfl))) (mvT hZ (hw _ (List.mem_of_getElem? (i := 58) rfl))) (by decide) (mvT hZ (hw _ (List.mem_of_getElem? (i := 60) rfl))) (mvT hZ (hw _ (List.mem_of_getElem? (i := 59) rfl))) (backOf (W := 1) (rm22 l Z a0 hw [] h0 n0 p1 A K EN OL0) hZ (hw _ (List.mem_of_getElem? (i := 62) rfl)) (hw _ (List.mem_of_getElem? (i := 61) rfl)) (by decide) (by decide)) q223a q223c (g := (mkF m 4 #[.val (.ref (A 8)), .unset] [(.ref (A 8)), (.ref (A 22))])) rfl (by rw [hml]; rfl) (Steps.refl _) (argsL := []) (rest := [(.ref (A 22))]) (lenOf own_pd0 rfl) rfl (by show 2 * 0 + _ ≤ _; exact Nat.le_of_eq rfl) (hb hby own_d_prog_32_method_2_code_4) (fun _ _ => ⟨rfl, e221, (by decide : 0 + 0 ≤ _), (by decide : 0 + 0 ≤ _)⟩)
  dsimp only [Pt.U, Pt.locs, Pt.cells, Pt.slots] at X223 l223 y223 z223 st223 hQ223
  replace X223 := own_sub X223 l223 y223 z223
  obtain ⟨rfl, N223q, e223⟩ := hQ223
  have N223 := Fr.app N0 N223q
  obtain ⟨cl224, Ar224, q224, Sz224, Nn224, Hh224, Gg224⟩ := (id (EN.2.2.2.2.2.1.2.2.2.2.2.1.ext OL0.2))
  have hin224 : ¬ ((8 : Int32) < 0 ∨ cl224.slots.size ≤ ((8 : Int32)).toNatClampNeg) := inb_of Sz224 ⟨by decide, by decide⟩
  have hat224 : cl224.slots[((8 : Int32)).toNatClampNeg]? = some (.int (4 : Int32)) := Has.at Hh224 hin224 rfl
  obtain ⟨T225, X225, e225, st225⟩ := getS2 X223 hx hZ hown (host := "") (Or.inl (hw _ (List.mem_of_getElem? (i := 65) rfl))) Via.refl e223 (EN.2.2.2.2.2.1.1.ext OL0.2) (g := (mkF m 70 #[.val (.ref (A 8)), .unset] [])) rfl (hb hby own_d_prog_32_method_2_code_70)
  obtain ⟨fs, hr, hrun, hended, hW, hsame⟩ := X225.leave (v := some (.ref (A 20))) (fun h => by rw [Bd.returns] at h; cases h)
  refine ⟨_, _, pre0 _ ?_, hrun, hended, _, _, rfl, ?_, ⟨_, rfl⟩, hW, hsame.mono (by decide) (by decide)⟩
  · show Steps p.tables e below (s₁.setTop (mkF m 0 #[.val (.ref (A 8)), .unset] [])) _
    refine st221 _ ?_
    show Steps p.tables e below (T221.setTop (mkF m 3 #[.val (.ref (A 8)), .unset] [(.ref (A 22))])) _
    refine XS.aloadN X221.here hx rfl (hb hby own_d_prog_32_method_2_code_3) rfl rfl ?_
    show Steps p.tables e below (T221.setTop (mkF m 4 #[.val (.ref (A 8)), .unset] [(.ref (A 8)), (.ref (A 22))])) _
    refine st223.trans ?_
    show Steps p.tables e below (T223.setTop (mkF m 7 #[.val (.ref (A 8)), .unset] [(.int (8 : Int32)), (.ref (A 22))])) _
    refine X223.iaload hx (j := (8 : Int32)) (v := (.int (4 : Int32))) (by rw [e223]; exact Ar224.1) (State.isArrayOf_alike hZ.alike Ar224.2.1) Ar224.2.2 hin224 hat224 (g := (mkF m 7 #[.val (.ref (A 8)), .unset] [(.int (8 : Int32)), (.ref (A 22))])) rfl rfl (hb hby own_d_prog_32_method_2_code_7) _ ?_
    show Steps p.tables e below (T223.setTop (mkF m 8 #[.val (.ref (A 8)), .unset] [(.int (4 : Int32))])) _
    refine XS.tswIn X223.here hx rfl (pc0 := 8) (pc' := 70) rfl (hb hby own_d_prog_32_method_2_code_8) rfl (by decide) (o := 62) (by decide) (by decide) (by decide) ?_
    show Steps p.tables e below (T223.setTop (mkF m 70 #[.val (.ref (A 8)), .unset] [])) _
    refine st225 _ ?_
    show Steps p.tables e below (T225.setTop (mkF m 73 #[.val (.ref (A 8)), .unset] [(.ref (A 20))])) _
    refine XS.goto X225.here hx rfl (pc0 := 73) (pc' := 83) rfl (hb hby own_d_prog_32_method_2_code_73) (by decide) (by decide) ?_
    show Steps p.tables e below (T225.setTop (mkF m 83 #[.val (.ref (A 8)), .unset] [(.ref (A 20))])) _
    refine XS.astoreN X225.here hx rfl (hb hby own_d_prog_32_method_2_code_83) rfl rfl (l' := #[.val (.ref (A 8)), .val (.ref (A 20))]) rfl ?_
    show Steps p.tables e below (T225.setTop (mkF m 84 #[.val (.ref (A 8)), .val (.ref (A 20))] [])) _
    refine XS.aloadN X225.here hx rfl (hb hby own_d_prog_32_method_2_code_84) rfl rfl ?_
    show Steps p.tables e below (T225.setTop (mkF m 85 #[.val (.ref (A 8)), .val (.ref (A 20))] [(.ref (A 20))])) _
    exact retOut X225 hx Bd.returns rfl (Or.inr (Or.inr (Or.inr (Or.inr ⟨rfl, rfl, rfl⟩)))) (hb hby own_d_prog_32_method_2_code_85) hr
  · show PQ (some (.ref (A 20))) h0 n0 _ T225.heap _
    rw [e225]
    exact ⟨rfl, N223, rfl⟩
theorem own_ef_rm24 (m : MethodId) (p1 : Int32) (A : Nat → Addr) (K : Nat → ClassId)  : entryFrame m #[(.ref (A 9))] 1 = mkF m 0 #[.val (.ref (A 9))] [] := by first | (simp [entryFrame, mkF, argsToLocals, Value.category, maxLocals]; done) | rfl
set_option maxRecDepth 65536 in
set_option maxHeartbeats 40000000 in
theorem rm24 (l : Launch) (Z : State) (a0 : Array Value) (hw : ∀ d ∈ tables_1, d.before a0 Z = true) (ws : List Jvm.Cond) (h0 : Heap) (n0 : Nat) (p1 : Int32) (A : Nat → Addr) (K : Nat → ClassId)  (EN : own_St Z A K) (OL0 : Old Z n0 h0) :
    MetFree l own_m1 (head1 (Jvm.Cond.code own_m1 jdk_37_method_2_code 1 (some .int) :: ws) ({ frames := 0, cells := 0, slots := 0, locals := 0 } : Room)) (fun a U => a = #[(.ref (A 9))] ∧ Z.Warmed39 U.vm ∧ U.heap = h0) (fun _ _ _ _ _ => True) (fun _ U o U' => ∃ v L, o = .returned v ∧ (PQ (some (.int (9 : Int32))) h0 n0) v U'.heap L ∧ FrameEnd U o U' L ({ frames := 0, cells := 0, slots := 0, locals := 0 } : Room).cells ({ frames := 0, cells := 0, slots := 0, locals := 0 } : Room).slots) := by
  refine MetFree.of_bodySF (plainFor_of_name own_pn0) hisR ?_
  intro p e s m args below meth c s₁ Bd hml0 hP hK
  obtain ⟨rfl, hZ, hh⟩ := hP
  have hx := Bd.exec
  have hby := Bd.bytes
  have hml : c.maxLocals = 1 := hml0
  have hown : s.vm.findClass "java/lang/Enum" = some m.cls := findClass_of_methodNamed Bd.named
  have hnm := (name_of_methodNamed Bd.named Bd.method).1
  have X0 : Stand p l e ({ frames := 0, cells := 0, slots := 0, locals := 0 } : Room) s m #[(.ref (A 9))] below meth c s₁ [] 0 0 := Stand.of_body Bd
  have e0 : s₁.heap = h0 := by rw [← hh, Bd.state]; rfl
  have N0 := Fr.nil n0
  have pre0 : ∀ t, Steps p.tables e below (s₁.setTop (mkF m 0 #[.val (.ref (A 9))] [])) t → Steps p.tables e below (s₁.setTop (entryFrame m #[(.ref (A 9))] 1)) t := fun t k => castTop (own_ef_rm24 m p1 A K ) k
  have KK0 : Keep h0 h0 [] := Keep.refl _ _
  obtain ⟨T232, X232, e232, st232⟩ := getF X0 hx hZ hown (host := "") (Or.inl (hw _ (List.mem_of_getElem? (i := 63) rfl))) Via.refl e0 (EN.2.2.2.2.2.2.2.1.1.ext OL0.2) (g := (mkF m 1 #[.val (.ref (A 9))] [(.ref (A 9))])) rfl rfl (hb hby own_d_jdk_37_method_2_code_1)
  obtain ⟨fs, hr, hrun, hended, hW, hsame⟩ := X232.leave (v := some (.int (9 : Int32))) (fun h => by rw [Bd.returns] at h; cases h)
  refine ⟨_, _, pre0 _ ?_, hrun, hended, _, _, rfl, ?_, ⟨_, rfl⟩, hW, hsame.mono (by decide) (by decide)⟩
  · show Steps p.tables e below (s₁.setTop (mkF m 0 #[.val (.ref (A 9))] [])) _
    refine XS.aloadN X0.here hx rfl (hb hby own_d_jdk_37_method_2_code_0) rfl rfl ?_
    show Steps p.tables e below (s₁.setTop (mkF m 1 #[.val (.ref (A 9))] [(.ref (A 9))])) _
    refine st232 _ ?_
    show Steps p.tables e below (T232.setTop (mkF m 4 #[.val (.ref (A 9))] [(.int (9 : Int32))])) _
    exact retI X232 hx Bd.returns (hb hby own_d_jdk_37_method_2_code_4) hr
  · show PQ (some (.int (9 : Int32))) h0 n0 _ T232.heap _
    rw [e232]
    exact ⟨rfl, N0, rfl⟩
theorem own_ef_rm23 (m : MethodId) (p1 : Int32) (A : Nat → Addr) (K : Nat → ClassId)  : entryFrame m #[(.ref (A 9))] 2 = mkF m 0 #[.val (.ref (A 9)), .unset] [] := by first | (simp [entryFrame, mkF, argsToLocals, Value.category, maxLocals]; done) | rfl
set_option maxRecDepth 65536 in
set_option maxHeartbeats 40000000 in
theorem rm23 (l : Launch) (Z : State) (a0 : Array Value) (hw : ∀ d ∈ tables_1, d.before a0 Z = true) (ws : List Jvm.Cond) (h0 : Heap) (n0 : Nat) (p1 : Int32) (A : Nat → Addr) (K : Nat → ClassId)  (EN : own_St Z A K) (OL0 : Old Z n0 h0) :
    MetFree l own_m0 (head1 (Jvm.Cond.code own_m0 prog_32_method_2_code 2 (some (.object "com/example/dongl/dongl/core/ErrorCode")) :: ws) ({ frames := 1, cells := 0, slots := 0, locals := 13 } : Room)) (fun a U => a = #[(.ref (A 9))] ∧ Z.Warmed39 U.vm ∧ U.heap = h0) (fun _ _ _ _ _ => True) (fun _ U o U' => ∃ v L, o = .returned v ∧ (PQ (some (.ref (A 19))) h0 n0) v U'.heap L ∧ FrameEnd U o U' L ({ frames := 1, cells := 0, slots := 0, locals := 13 } : Room).cells ({ frames := 1, cells := 0, slots := 0, locals := 13 } : Room).slots) := by
  refine MetFree.of_bodySF (plainFor_of_name own_pn1) hisR ?_
  intro p e s m args below meth c s₁ Bd hml0 hP hK
  obtain ⟨rfl, hZ, hh⟩ := hP
  have hx := Bd.exec
  have hby := Bd.bytes
  have hml : c.maxLocals = 2 := hml0
  have hown : s.vm.findClass "com/example/dongl/dongl/server/ClientRefusals" = some m.cls := findClass_of_methodNamed Bd.named
  have hnm := (name_of_methodNamed Bd.named Bd.method).1
  have X0 : Stand p l e ({ frames := 1, cells := 0, slots := 0, locals := 13 } : Room) s m #[(.ref (A 9))] below meth c s₁ [] 0 0 := Stand.of_body Bd
  have e0 : s₁.heap = h0 := by rw [← hh, Bd.state]; rfl
  have N0 := Fr.nil n0
  have pre0 : ∀ t, Steps p.tables e below (s₁.setTop (mkF m 0 #[.val (.ref (A 9)), .unset] [])) t → Steps p.tables e below (s₁.setTop (entryFrame m #[(.ref (A 9))] 2)) t := fun t k => castTop (own_ef_rm23 m p1 A K ) k
  have KK0 : Keep h0 h0 [] := Keep.refl _ _
  obtain ⟨T231, X231, e231, st231⟩ := getS2 X0 hx hZ hown (host := "") (Or.inl (hw _ (List.mem_of_getElem? (i := 53) rfl))) Via.refl e0 (EN.2.2.2.2.2.1.2.2.2.2.1.ext OL0.2) (g := (mkF m 0 #[.val (.ref (A 9)), .unset] [])) rfl (hb hby own_d_prog_32_method_2_code_0)
  obtain ⟨cq233, kq233, q233a, q233b, q233c⟩ := isOf hZ e231 (EN.2.2.1.2.2.2.1.ext OL0.2)
  obtain ⟨_, _, ⟨T233, L233, k233, n233⟩, -, X233, ⟨Lc233, hQ233, l233, y233, z233⟩, st233⟩ := X231.virtualBackUp hx (x := own_m2) (y := own_m1) (owner := "java/lang/Enum") hown (mvT hZ (hw _ (List.mem_of_getElem? (i := 56) rfl))) (mvT hZ (hw _ (List.mem_of_getElem? (i := 57) rfl))) (mvT hZ (hw _ (List.mem_of_getElem? (i := 58) rfl))) (by decide) (mvT hZ (hw _ (List.mem_of_getElem? (i := 60) rfl))) (mvT hZ (hw _ (List.mem_of_getElem? (i := 59) rfl))) (backOf (W := 1) (rm24 l Z a0 hw [] h0 n0 p1 A K EN OL0) hZ (hw _ (List.mem_of_getElem? (i := 62) rfl)) (hw _ (List.mem_of_getElem? (i := 61) rfl)) (by decide) (by decide)) q233a q233c (g := (mkF m 4 #[.val (.ref (A 9)), .unset] [(.ref (A 9)), (.ref (A 22))])) rfl (by rw [hml]; rfl) (Steps.refl _) (argsL := []) (rest := [(.ref (A 22))]) (lenOf own_pd0 rfl) rfl (by show 2 * 0 + _ ≤ _; exact Nat.le_of_eq rfl) (hb hby own_d_prog_32_method_2_code_4) (fun _ _ => ⟨rfl, e231, (by decide : 0 + 0 ≤ _), (by decide : 0 + 0 ≤ _)⟩)
  dsimp only [Pt.U, Pt.locs, Pt.cells, Pt.slots] at X233 l233 y233 z233 st233 hQ233
  replace X233 := own_sub X233 l233 y233 z233
  obtain ⟨rfl, N233q, e233⟩ := hQ233
  have N233 := Fr.app N0 N233q
  obtain ⟨cl234, Ar234, q234, Sz234, Nn234, Hh234, Gg234⟩ := (id (EN.2.2.2.2.2.1.2.2.2.2.2.1.ext OL0.2))
  have hin234 : ¬ ((9 : Int32) < 0 ∨ cl234.slots.size ≤ ((9 : Int32)).toNatClampNeg) := inb_of Sz234 ⟨by decide, by decide⟩
  have hat234 : cl234.slots[((9 : Int32)).toNatClampNeg]? = some (.int (5 : Int32)) := Has.at Hh234 hin234 rfl
  obtain ⟨T235, X235, e235, st235⟩ := getS2 X233 hx hZ hown (host := "") (Or.inl (hw _ (List.mem_of_getElem? (i := 66) rfl))) Via.refl e233 (EN.2.2.2.2.1.2.2.2.2.2.2.1.ext OL0.2) (g := (mkF m 76 #[.val (.ref (A 9)), .unset] [])) rfl (hb hby own_d_prog_32_method_2_code_76)
  obtain ⟨fs, hr, hrun, hended, hW, hsame⟩ := X235.leave (v := some (.ref (A 19))) (fun h => by rw [Bd.returns] at h; cases h)
  refine ⟨_, _, pre0 _ ?_, hrun, hended, _, _, rfl, ?_, ⟨_, rfl⟩, hW, hsame.mono (by decide) (by decide)⟩
  · show Steps p.tables e below (s₁.setTop (mkF m 0 #[.val (.ref (A 9)), .unset] [])) _
    refine st231 _ ?_
    show Steps p.tables e below (T231.setTop (mkF m 3 #[.val (.ref (A 9)), .unset] [(.ref (A 22))])) _
    refine XS.aloadN X231.here hx rfl (hb hby own_d_prog_32_method_2_code_3) rfl rfl ?_
    show Steps p.tables e below (T231.setTop (mkF m 4 #[.val (.ref (A 9)), .unset] [(.ref (A 9)), (.ref (A 22))])) _
    refine st233.trans ?_
    show Steps p.tables e below (T233.setTop (mkF m 7 #[.val (.ref (A 9)), .unset] [(.int (9 : Int32)), (.ref (A 22))])) _
    refine X233.iaload hx (j := (9 : Int32)) (v := (.int (5 : Int32))) (by rw [e233]; exact Ar234.1) (State.isArrayOf_alike hZ.alike Ar234.2.1) Ar234.2.2 hin234 hat234 (g := (mkF m 7 #[.val (.ref (A 9)), .unset] [(.int (9 : Int32)), (.ref (A 22))])) rfl rfl (hb hby own_d_prog_32_method_2_code_7) _ ?_
    show Steps p.tables e below (T233.setTop (mkF m 8 #[.val (.ref (A 9)), .unset] [(.int (5 : Int32))])) _
    refine XS.tswIn X233.here hx rfl (pc0 := 8) (pc' := 76) rfl (hb hby own_d_prog_32_method_2_code_8) rfl (by decide) (o := 68) (by decide) (by decide) (by decide) ?_
    show Steps p.tables e below (T233.setTop (mkF m 76 #[.val (.ref (A 9)), .unset] [])) _
    refine st235 _ ?_
    show Steps p.tables e below (T235.setTop (mkF m 79 #[.val (.ref (A 9)), .unset] [(.ref (A 19))])) _
    refine XS.goto X235.here hx rfl (pc0 := 79) (pc' := 83) rfl (hb hby own_d_prog_32_method_2_code_79) (by decide) (by decide) ?_
    show Steps p.tables e below (T235.setTop (mkF m 83 #[.val (.ref (A 9)), .unset] [(.ref (A 19))])) _
    refine XS.astoreN X235.here hx rfl (hb hby own_d_prog_32_method_2_code_83) rfl rfl (l' := #[.val (.ref (A 9)), .val (.ref (A 19))]) rfl ?_
    show Steps p.tables e below (T235.setTop (mkF m 84 #[.val (.ref (A 9)), .val (.ref (A 19))] [])) _
    refine XS.aloadN X235.here hx rfl (hb hby own_d_prog_32_method_2_code_84) rfl rfl ?_
    show Steps p.tables e below (T235.setTop (mkF m 85 #[.val (.ref (A 9)), .val (.ref (A 19))] [(.ref (A 19))])) _
    exact retOut X235 hx Bd.returns rfl (Or.inr (Or.inr (Or.inr (Or.inr ⟨rfl, rfl, rfl⟩)))) (hb hby own_d_prog_32_method_2_code_85) hr
  · show PQ (some (.ref (A 19))) h0 n0 _ T235.heap _
    rw [e235]
    exact ⟨rfl, N233, rfl⟩
theorem own_ef_rm26 (m : MethodId) (p1 : Int32) (A : Nat → Addr) (K : Nat → ClassId)  : entryFrame m #[(.ref (A 10))] 1 = mkF m 0 #[.val (.ref (A 10))] [] := by first | (simp [entryFrame, mkF, argsToLocals, Value.category, maxLocals]; done) | rfl
set_option maxRecDepth 65536 in
set_option maxHeartbeats 40000000 in
theorem rm26 (l : Launch) (Z : State) (a0 : Array Value) (hw : ∀ d ∈ tables_1, d.before a0 Z = true) (ws : List Jvm.Cond) (h0 : Heap) (n0 : Nat) (p1 : Int32) (A : Nat → Addr) (K : Nat → ClassId)  (EN : own_St Z A K) (OL0 : Old Z n0 h0) :
    MetFree l own_m1 (head1 (Jvm.Cond.code own_m1 jdk_37_method_2_code 1 (some .int) :: ws) ({ frames := 0, cells := 0, slots := 0, locals := 0 } : Room)) (fun a U => a = #[(.ref (A 10))] ∧ Z.Warmed39 U.vm ∧ U.heap = h0) (fun _ _ _ _ _ => True) (fun _ U o U' => ∃ v L, o = .returned v ∧ (PQ (some (.int (10 : Int32))) h0 n0) v U'.heap L ∧ FrameEnd U o U' L ({ frames := 0, cells := 0, slots := 0, locals := 0 } : Room).cells ({ frames := 0, cells := 0, slots := 0, locals := 0 } : Room).slots) := by
  refine MetFree.of_bodySF (plainFor_of_name own_pn0) hisR ?_
  intro p e s m args below meth c s₁ Bd hml0 hP hK
  obtain ⟨rfl, hZ, hh⟩ := hP
  have hx := Bd.exec
  have hby := Bd.bytes
  have hml : c.maxLocals = 1 := hml0
  have hown : s.vm.findClass "java/lang/Enum" = some m.cls := findClass_of_methodNamed Bd.named
  have hnm := (name_of_methodNamed Bd.named Bd.method).1
  have X0 : Stand p l e ({ frames := 0, cells := 0, slots := 0, locals := 0 } : Room) s m #[(.ref (A 10))] below meth c s₁ [] 0 0 := Stand.of_body Bd
  have e0 : s₁.heap = h0 := by rw [← hh, Bd.state]; rfl
  have N0 := Fr.nil n0
  have pre0 : ∀ t, Steps p.tables e below (s₁.setTop (mkF m 0 #[.val (.ref (A 10))] [])) t → Steps p.tables e below (s₁.setTop (entryFrame m #[(.ref (A 10))] 1)) t := fun t k => castTop (own_ef_rm26 m p1 A K ) k
  have KK0 : Keep h0 h0 [] := Keep.refl _ _
  obtain ⟨T242, X242, e242, st242⟩ := getF X0 hx hZ hown (host := "") (Or.inl (hw _ (List.mem_of_getElem? (i := 63) rfl))) Via.refl e0 (EN.2.2.2.2.2.2.1.2.2.2.2.2.2.1.ext OL0.2) (g := (mkF m 1 #[.val (.ref (A 10))] [(.ref (A 10))])) rfl rfl (hb hby own_d_jdk_37_method_2_code_1)
  obtain ⟨fs, hr, hrun, hended, hW, hsame⟩ := X242.leave (v := some (.int (10 : Int32))) (fun h => by rw [Bd.returns] at h; cases h)
  refine ⟨_, _, pre0 _ ?_, hrun, hended, _, _, rfl, ?_, ⟨_, rfl⟩, hW, hsame.mono (by decide) (by decide)⟩
  · show Steps p.tables e below (s₁.setTop (mkF m 0 #[.val (.ref (A 10))] [])) _
    refine XS.aloadN X0.here hx rfl (hb hby own_d_jdk_37_method_2_code_0) rfl rfl ?_
    show Steps p.tables e below (s₁.setTop (mkF m 1 #[.val (.ref (A 10))] [(.ref (A 10))])) _
    refine st242 _ ?_
    show Steps p.tables e below (T242.setTop (mkF m 4 #[.val (.ref (A 10))] [(.int (10 : Int32))])) _
    exact retI X242 hx Bd.returns (hb hby own_d_jdk_37_method_2_code_4) hr
  · show PQ (some (.int (10 : Int32))) h0 n0 _ T242.heap _
    rw [e242]
    exact ⟨rfl, N0, rfl⟩
theorem own_ef_rm25 (m : MethodId) (p1 : Int32) (A : Nat → Addr) (K : Nat → ClassId)  : entryFrame m #[(.ref (A 10))] 2 = mkF m 0 #[.val (.ref (A 10)), .unset] [] := by first | (simp [entryFrame, mkF, argsToLocals, Value.category, maxLocals]; done) | rfl
set_option maxRecDepth 65536 in
set_option maxHeartbeats 40000000 in
theorem rm25 (l : Launch) (Z : State) (a0 : Array Value) (hw : ∀ d ∈ tables_1, d.before a0 Z = true) (ws : List Jvm.Cond) (h0 : Heap) (n0 : Nat) (p1 : Int32) (A : Nat → Addr) (K : Nat → ClassId)  (EN : own_St Z A K) (OL0 : Old Z n0 h0) :
    MetFree l own_m0 (head1 (Jvm.Cond.code own_m0 prog_32_method_2_code 2 (some (.object "com/example/dongl/dongl/core/ErrorCode")) :: ws) ({ frames := 1, cells := 0, slots := 0, locals := 13 } : Room)) (fun a U => a = #[(.ref (A 10))] ∧ Z.Warmed39 U.vm ∧ U.heap = h0) (fun _ _ _ _ _ => True) (fun _ U o U' => ∃ v L, o = .returned v ∧ (PQ (some (.ref (A 10))) h0 n0) v U'.heap L ∧ FrameEnd U o U' L ({ frames := 1, cells := 0, slots := 0, locals := 13 } : Room).cells ({ frames := 1, cells := 0, slots := 0, locals := 13 } : Room).slots) := by
  refine MetFree.of_bodySF (plainFor_of_name own_pn1) hisR ?_
  intro p e s m args below meth c s₁ Bd hml0 hP hK
  obtain ⟨rfl, hZ, hh⟩ := hP
  have hx := Bd.exec
  have hby := Bd.bytes
  have hml : c.maxLocals = 2 := hml0
  have hown : s.vm.findClass "com/example/dongl/dongl/server/ClientRefusals" = some m.cls := findClass_of_methodNamed Bd.named
  have hnm := (name_of_methodNamed Bd.named Bd.method).1
  have X0 : Stand p l e ({ frames := 1, cells := 0, slots := 0, locals := 13 } : Room) s m #[(.ref (A 10))] below meth c s₁ [] 0 0 := Stand.of_body Bd
  have e0 : s₁.heap = h0 := by rw [← hh, Bd.state]; rfl
  have N0 := Fr.nil n0
  have pre0 : ∀ t, Steps p.tables e below (s₁.setTop (mkF m 0 #[.val (.ref (A 10)), .unset] [])) t → Steps p.tables e below (s₁.setTop (entryFrame m #[(.ref (A 10))] 2)) t := fun t k => castTop (own_ef_rm25 m p1 A K ) k
  have KK0 : Keep h0 h0 [] := Keep.refl _ _
  obtain ⟨T241, X241, e241, st241⟩ := getS2 X0 hx hZ hown (host := "") (Or.inl (hw _ (List.mem_of_getElem? (i := 53) rfl))) Via.refl e0 (EN.2.2.2.2.2.1.2.2.2.2.1.ext OL0.2) (g := (mkF m 0 #[.val (.ref (A 10)), .unset] [])) rfl (hb hby own_d_prog_32_method_2_code_0)
  obtain ⟨cq243, kq243, q243a, q243b, q243c⟩ := isOf hZ e241 (EN.2.2.1.2.2.2.2.2.1.ext OL0.2)
  obtain ⟨_, _, ⟨T243, L243, k243, n243⟩, -, X243, ⟨Lc243, hQ243, l243, y243, z243⟩, st243⟩ := X241.virtualBackUp hx (x := own_m2) (y := own_m1) (owner := "java/lang/Enum") hown (mvT hZ (hw _ (List.mem_of_getElem? (i := 56) rfl))) (mvT hZ (hw _ (List.mem_of_getElem? (i := 57) rfl))) (mvT hZ (hw _ (List.mem_of_getElem? (i := 58) rfl))) (by decide) (mvT hZ (hw _ (List.mem_of_getElem? (i := 60) rfl))) (mvT hZ (hw _ (List.mem_of_getElem? (i := 59) rfl))) (backOf (W := 1) (rm26 l Z a0 hw [] h0 n0 p1 A K EN OL0) hZ (hw _ (List.mem_of_getElem? (i := 62) rfl)) (hw _ (List.mem_of_getElem? (i := 61) rfl)) (by decide) (by decide)) q243a q243c (g := (mkF m 4 #[.val (.ref (A 10)), .unset] [(.ref (A 10)), (.ref (A 22))])) rfl (by rw [hml]; rfl) (Steps.refl _) (argsL := []) (rest := [(.ref (A 22))]) (lenOf own_pd0 rfl) rfl (by show 2 * 0 + _ ≤ _; exact Nat.le_of_eq rfl) (hb hby own_d_prog_32_method_2_code_4) (fun _ _ => ⟨rfl, e241, (by decide : 0 + 0 ≤ _), (by decide : 0 + 0 ≤ _)⟩)
  dsimp only [Pt.U, Pt.locs, Pt.cells, Pt.slots] at X243 l243 y243 z243 st243 hQ243
  replace X243 := own_sub X243 l243 y243 z243
  obtain ⟨rfl, N243q, e243⟩ := hQ243
  have N243 := Fr.app N0 N243q
  obtain ⟨cl244, Ar244, q244, Sz244, Nn244, Hh244, Gg244⟩ := (id (EN.2.2.2.2.2.1.2.2.2.2.2.1.ext OL0.2))
  have hin244 : ¬ ((10 : Int32) < 0 ∨ cl244.slots.size ≤ ((10 : Int32)).toNatClampNeg) := inb_of Sz244 ⟨by decide, by decide⟩
  have hat244 : cl244.slots[((10 : Int32)).toNatClampNeg]? = some (.int (0 : Int32)) := Has.at Hh244 hin244 rfl
  obtain ⟨fs, hr, hrun, hended, hW, hsame⟩ := X243.leave (v := some (.ref (A 10))) (fun h => by rw [Bd.returns] at h; cases h)
  refine ⟨_, _, pre0 _ ?_, hrun, hended, _, _, rfl, ?_, ⟨_, rfl⟩, hW, hsame.mono (by decide) (by decide)⟩
  · show Steps p.tables e below (s₁.setTop (mkF m 0 #[.val (.ref (A 10)), .unset] [])) _
    refine st241 _ ?_
    show Steps p.tables e below (T241.setTop (mkF m 3 #[.val (.ref (A 10)), .unset] [(.ref (A 22))])) _
    refine XS.aloadN X241.here hx rfl (hb hby own_d_prog_32_method_2_code_3) rfl rfl ?_
    show Steps p.tables e below (T241.setTop (mkF m 4 #[.val (.ref (A 10)), .unset] [(.ref (A 10)), (.ref (A 22))])) _
    refine st243.trans ?_
    show Steps p.tables e below (T243.setTop (mkF m 7 #[.val (.ref (A 10)), .unset] [(.int (10 : Int32)), (.ref (A 22))])) _
    refine X243.iaload hx (j := (10 : Int32)) (v := (.int (0 : Int32))) (by rw [e243]; exact Ar244.1) (State.isArrayOf_alike hZ.alike Ar244.2.1) Ar244.2.2 hin244 hat244 (g := (mkF m 7 #[.val (.ref (A 10)), .unset] [(.int (10 : Int32)), (.ref (A 22))])) rfl rfl (hb hby own_d_prog_32_method_2_code_7) _ ?_
    show Steps p.tables e below (T243.setTop (mkF m 8 #[.val (.ref (A 10)), .unset] [(.int (0 : Int32))])) _
    refine XS.tswOut X243.here hx rfl (pc0 := 8) (pc' := 82) rfl (hb hby own_d_prog_32_method_2_code_8) rfl (by decide) (by decide) (by decide) ?_
    show Steps p.tables e below (T243.setTop (mkF m 82 #[.val (.ref (A 10)), .unset] [])) _
    refine XS.aloadN X243.here hx rfl (hb hby own_d_prog_32_method_2_code_82) rfl rfl ?_
    show Steps p.tables e below (T243.setTop (mkF m 83 #[.val (.ref (A 10)), .unset] [(.ref (A 10))])) _
    refine XS.astoreN X243.here hx rfl (hb hby own_d_prog_32_method_2_code_83) rfl rfl (l' := #[.val (.ref (A 10)), .val (.ref (A 10))]) rfl ?_
    show Steps p.tables e below (T243.setTop (mkF m 84 #[.val (.ref (A 10)), .val (.ref (A 10))] [])) _
    refine XS.aloadN X243.here hx rfl (hb hby own_d_prog_32_method_2_code_84) rfl rfl ?_
    show Steps p.tables e below (T243.setTop (mkF m 85 #[.val (.ref (A 10)), .val (.ref (A 10))] [(.ref (A 10))])) _
    exact retOut X243 hx Bd.returns rfl (Or.inr (Or.inr (Or.inr (Or.inr ⟨rfl, rfl, rfl⟩)))) (hb hby own_d_prog_32_method_2_code_85) hr
  · show PQ (some (.ref (A 10))) h0 n0 _ T243.heap _
    rw [e243]
    exact ⟨rfl, N243, rfl⟩
theorem own_ef_rm28 (m : MethodId) (p1 : Int32) (A : Nat → Addr) (K : Nat → ClassId)  : entryFrame m #[(.ref (A 11))] 1 = mkF m 0 #[.val (.ref (A 11))] [] := by first | (simp [entryFrame, mkF, argsToLocals, Value.category, maxLocals]; done) | rfl
set_option maxRecDepth 65536 in
set_option maxHeartbeats 40000000 in
theorem rm28 (l : Launch) (Z : State) (a0 : Array Value) (hw : ∀ d ∈ tables_1, d.before a0 Z = true) (ws : List Jvm.Cond) (h0 : Heap) (n0 : Nat) (p1 : Int32) (A : Nat → Addr) (K : Nat → ClassId)  (EN : own_St Z A K) (OL0 : Old Z n0 h0) :
    MetFree l own_m1 (head1 (Jvm.Cond.code own_m1 jdk_37_method_2_code 1 (some .int) :: ws) ({ frames := 0, cells := 0, slots := 0, locals := 0 } : Room)) (fun a U => a = #[(.ref (A 11))] ∧ Z.Warmed39 U.vm ∧ U.heap = h0) (fun _ _ _ _ _ => True) (fun _ U o U' => ∃ v L, o = .returned v ∧ (PQ (some (.int (11 : Int32))) h0 n0) v U'.heap L ∧ FrameEnd U o U' L ({ frames := 0, cells := 0, slots := 0, locals := 0 } : Room).cells ({ frames := 0, cells := 0, slots := 0, locals := 0 } : Room).slots) := by
  refine MetFree.of_bodySF (plainFor_of_name own_pn0) hisR ?_
  intro p e s m args below meth c s₁ Bd hml0 hP hK
  obtain ⟨rfl, hZ, hh⟩ := hP
  have hx := Bd.exec
  have hby := Bd.bytes
  have hml : c.maxLocals = 1 := hml0
  have hown : s.vm.findClass "java/lang/Enum" = some m.cls := findClass_of_methodNamed Bd.named
  have hnm := (name_of_methodNamed Bd.named Bd.method).1
  have X0 : Stand p l e ({ frames := 0, cells := 0, slots := 0, locals := 0 } : Room) s m #[(.ref (A 11))] below meth c s₁ [] 0 0 := Stand.of_body Bd
  have e0 : s₁.heap = h0 := by rw [← hh, Bd.state]; rfl
  have N0 := Fr.nil n0
  have pre0 : ∀ t, Steps p.tables e below (s₁.setTop (mkF m 0 #[.val (.ref (A 11))] [])) t → Steps p.tables e below (s₁.setTop (entryFrame m #[(.ref (A 11))] 1)) t := fun t k => castTop (own_ef_rm28 m p1 A K ) k
  have KK0 : Keep h0 h0 [] := Keep.refl _ _
  obtain ⟨T251, X251, e251, st251⟩ := getF X0 hx hZ hown (host := "") (Or.inl (hw _ (List.mem_of_getElem? (i := 63) rfl))) Via.refl e0 (EN.2.2.2.2.2.2.1.2.2.2.2.1.ext OL0.2) (g := (mkF m 1 #[.val (.ref (A 11))] [(.ref (A 11))])) rfl rfl (hb hby own_d_jdk_37_method_2_code_1)
  obtain ⟨fs, hr, hrun, hended, hW, hsame⟩ := X251.leave (v := some (.int (11 : Int32))) (fun h => by rw [Bd.returns] at h; cases h)
  refine ⟨_, _, pre0 _ ?_, hrun, hended, _, _, rfl, ?_, ⟨_, rfl⟩, hW, hsame.mono (by decide) (by decide)⟩
  · show Steps p.tables e below (s₁.setTop (mkF m 0 #[.val (.ref (A 11))] [])) _
    refine XS.aloadN X0.here hx rfl (hb hby own_d_jdk_37_method_2_code_0) rfl rfl ?_
    show Steps p.tables e below (s₁.setTop (mkF m 1 #[.val (.ref (A 11))] [(.ref (A 11))])) _
    refine st251 _ ?_
    show Steps p.tables e below (T251.setTop (mkF m 4 #[.val (.ref (A 11))] [(.int (11 : Int32))])) _
    exact retI X251 hx Bd.returns (hb hby own_d_jdk_37_method_2_code_4) hr
  · show PQ (some (.int (11 : Int32))) h0 n0 _ T251.heap _
    rw [e251]
    exact ⟨rfl, N0, rfl⟩
theorem own_ef_rm27 (m : MethodId) (p1 : Int32) (A : Nat → Addr) (K : Nat → ClassId)  : entryFrame m #[(.ref (A 11))] 2 = mkF m 0 #[.val (.ref (A 11)), .unset] [] := by first | (simp [entryFrame, mkF, argsToLocals, Value.category, maxLocals]; done) | rfl
set_option maxRecDepth 65536 in
set_option maxHeartbeats 40000000 in
theorem rm27 (l : Launch) (Z : State) (a0 : Array Value) (hw : ∀ d ∈ tables_1, d.before a0 Z = true) (ws : List Jvm.Cond) (h0 : Heap) (n0 : Nat) (p1 : Int32) (A : Nat → Addr) (K : Nat → ClassId)  (EN : own_St Z A K) (OL0 : Old Z n0 h0) :
    MetFree l own_m0 (head1 (Jvm.Cond.code own_m0 prog_32_method_2_code 2 (some (.object "com/example/dongl/dongl/core/ErrorCode")) :: ws) ({ frames := 1, cells := 0, slots := 0, locals := 13 } : Room)) (fun a U => a = #[(.ref (A 11))] ∧ Z.Warmed39 U.vm ∧ U.heap = h0) (fun _ _ _ _ _ => True) (fun _ U o U' => ∃ v L, o = .returned v ∧ (PQ (some (.ref (A 19))) h0 n0) v U'.heap L ∧ FrameEnd U o U' L ({ frames := 1, cells := 0, slots := 0, locals := 13 } : Room).cells ({ frames := 1, cells := 0, slots := 0, locals := 13 } : Room).slots) := by
  refine MetFree.of_bodySF (plainFor_of_name own_pn1) hisR ?_
  intro p e s m args below meth c s₁ Bd hml0 hP hK
  obtain ⟨rfl, hZ, hh⟩ := hP
  have hx := Bd.exec
  have hby := Bd.bytes
  have hml : c.maxLocals = 2 := hml0
  have hown : s.vm.findClass "com/example/dongl/dongl/server/ClientRefusals" = some m.cls := findClass_of_methodNamed Bd.named
  have hnm := (name_of_methodNamed Bd.named Bd.method).1
  have X0 : Stand p l e ({ frames := 1, cells := 0, slots := 0, locals := 13 } : Room) s m #[(.ref (A 11))] below meth c s₁ [] 0 0 := Stand.of_body Bd
  have e0 : s₁.heap = h0 := by rw [← hh, Bd.state]; rfl
  have N0 := Fr.nil n0
  have pre0 : ∀ t, Steps p.tables e below (s₁.setTop (mkF m 0 #[.val (.ref (A 11)), .unset] [])) t → Steps p.tables e below (s₁.setTop (entryFrame m #[(.ref (A 11))] 2)) t := fun t k => castTop (own_ef_rm27 m p1 A K ) k
  have KK0 : Keep h0 h0 [] := Keep.refl _ _
  obtain ⟨T250, X250, e250, st250⟩ := getS2 X0 hx hZ hown (host := "") (Or.inl (hw _ (List.mem_of_getElem? (i := 53) rfl))) Via.refl e0 (EN.2.2.2.2.2.1.2.2.2.2.1.ext OL0.2) (g := (mkF m 0 #[.val (.ref (A 11)), .unset] [])) rfl (hb hby own_d_prog_32_method_2_code_0)
  obtain ⟨cq252, kq252, q252a, q252b, q252c⟩ := isOf hZ e250 (EN.2.2.1.2.2.2.2.2.2.2.1.ext OL0.2)
  obtain ⟨_, _, ⟨T252, L252, k252, n252⟩, -, X252, ⟨Lc252, hQ252, l252, y252, z252⟩, st252⟩ := X250.virtualBackUp hx (x := own_m2) (y := own_m1) (owner := "java/lang/Enum") hown (mvT hZ (hw _ (List.mem_of_getElem? (i := 56) rfl))) (mvT hZ (hw _ (List.mem_of_getElem? (i := 57) rfl))) (mvT hZ (hw _ (List.mem_of_getElem? (i := 58) rfl))) (by decide) (mvT hZ (hw _ (List.mem_of_getElem? (i := 60) rfl))) (mvT hZ (hw _ (List.mem_of_getElem? (i := 59) rfl))) (backOf (W := 1) (rm28 l Z a0 hw [] h0 n0 p1 A K EN OL0) hZ (hw _ (List.mem_of_getElem? (i := 62) rfl)) (hw _ (List.mem_of_getElem? (i := 61) rfl)) (by decide) (by decide)) q252a q252c (g := (mkF m 4 #[.val (.ref (A 11)), .unset] [(.ref (A 11)), (.ref (A 22))])) rfl (by rw [hml]; rfl) (Steps.refl _) (argsL := []) (rest := [(.ref (A 22))]) (lenOf own_pd0 rfl) rfl (by show 2 * 0 + _ ≤ _; exact Nat.le_of_eq rfl) (hb hby own_d_prog_32_method_2_code_4) (fun _ _ => ⟨rfl, e250, (by decide : 0 + 0 ≤ _), (by decide : 0 + 0 ≤ _)⟩)
  dsimp only [Pt.U, Pt.locs, Pt.cells, Pt.slots] at X252 l252 y252 z252 st252 hQ252
  replace X252 := own_sub X252 l252 y252 z252
  obtain ⟨rfl, N252q, e252⟩ := hQ252
  have N252 := Fr.app N0 N252q
  obtain ⟨cl253, Ar253, q253, Sz253, Nn253, Hh253, Gg253⟩ := (id (EN.2.2.2.2.2.1.2.2.2.2.2.1.ext OL0.2))
  have hin253 : ¬ ((11 : Int32) < 0 ∨ cl253.slots.size ≤ ((11 : Int32)).toNatClampNeg) := inb_of Sz253 ⟨by decide, by decide⟩
  have hat253 : cl253.slots[((11 : Int32)).toNatClampNeg]? = some (.int (6 : Int32)) := Has.at Hh253 hin253 rfl
  obtain ⟨T254, X254, e254, st254⟩ := getS2 X252 hx hZ hown (host := "") (Or.inl (hw _ (List.mem_of_getElem? (i := 66) rfl))) Via.refl e252 (EN.2.2.2.2.1.2.2.2.2.2.2.1.ext OL0.2) (g := (mkF m 76 #[.val (.ref (A 11)), .unset] [])) rfl (hb hby own_d_prog_32_method_2_code_76)
  obtain ⟨fs, hr, hrun, hended, hW, hsame⟩ := X254.leave (v := some (.ref (A 19))) (fun h => by rw [Bd.returns] at h; cases h)
  refine ⟨_, _, pre0 _ ?_, hrun, hended, _, _, rfl, ?_, ⟨_, rfl⟩, hW, hsame.mono (by decide) (by decide)⟩
  · show Steps p.tables e below (s₁.setTop (mkF m 0 #[.val (.ref (A 11)), .unset] [])) _
    refine st250 _ ?_
    show Steps p.tables e below (T250.setTop (mkF m 3 #[.val (.ref (A 11)), .unset] [(.ref (A 22))])) _
    refine XS.aloadN X250.here hx rfl (hb hby own_d_prog_32_method_2_code_3) rfl rfl ?_
    show Steps p.tables e below (T250.setTop (mkF m 4 #[.val (.ref (A 11)), .unset] [(.ref (A 11)), (.ref (A 22))])) _
    refine st252.trans ?_
    show Steps p.tables e below (T252.setTop (mkF m 7 #[.val (.ref (A 11)), .unset] [(.int (11 : Int32)), (.ref (A 22))])) _
    refine X252.iaload hx (j := (11 : Int32)) (v := (.int (6 : Int32))) (by rw [e252]; exact Ar253.1) (State.isArrayOf_alike hZ.alike Ar253.2.1) Ar253.2.2 hin253 hat253 (g := (mkF m 7 #[.val (.ref (A 11)), .unset] [(.int (11 : Int32)), (.ref (A 22))])) rfl rfl (hb hby own_d_prog_32_method_2_code_7) _ ?_
    show Steps p.tables e below (T252.setTop (mkF m 8 #[.val (.ref (A 11)), .unset] [(.int (6 : Int32))])) _
    refine XS.tswIn X252.here hx rfl (pc0 := 8) (pc' := 76) rfl (hb hby own_d_prog_32_method_2_code_8) rfl (by decide) (o := 68) (by decide) (by decide) (by decide) ?_
    show Steps p.tables e below (T252.setTop (mkF m 76 #[.val (.ref (A 11)), .unset] [])) _
    refine st254 _ ?_
    show Steps p.tables e below (T254.setTop (mkF m 79 #[.val (.ref (A 11)), .unset] [(.ref (A 19))])) _
    refine XS.goto X254.here hx rfl (pc0 := 79) (pc' := 83) rfl (hb hby own_d_prog_32_method_2_code_79) (by decide) (by decide) ?_
    show Steps p.tables e below (T254.setTop (mkF m 83 #[.val (.ref (A 11)), .unset] [(.ref (A 19))])) _
    refine XS.astoreN X254.here hx rfl (hb hby own_d_prog_32_method_2_code_83) rfl rfl (l' := #[.val (.ref (A 11)), .val (.ref (A 19))]) rfl ?_
    show Steps p.tables e below (T254.setTop (mkF m 84 #[.val (.ref (A 11)), .val (.ref (A 19))] [])) _
    refine XS.aloadN X254.here hx rfl (hb hby own_d_prog_32_method_2_code_84) rfl rfl ?_
    show Steps p.tables e below (T254.setTop (mkF m 85 #[.val (.ref (A 11)), .val (.ref (A 19))] [(.ref (A 19))])) _
    exact retOut X254 hx Bd.returns rfl (Or.inr (Or.inr (Or.inr (Or.inr ⟨rfl, rfl, rfl⟩)))) (hb hby own_d_prog_32_method_2_code_85) hr
  · show PQ (some (.ref (A 19))) h0 n0 _ T254.heap _
    rw [e254]
    exact ⟨rfl, N252, rfl⟩
theorem own_ef_rm30 (m : MethodId) (p1 : Int32) (A : Nat → Addr) (K : Nat → ClassId)  : entryFrame m #[(.ref (A 12))] 1 = mkF m 0 #[.val (.ref (A 12))] [] := by first | (simp [entryFrame, mkF, argsToLocals, Value.category, maxLocals]; done) | rfl
set_option maxRecDepth 65536 in
set_option maxHeartbeats 40000000 in
theorem rm30 (l : Launch) (Z : State) (a0 : Array Value) (hw : ∀ d ∈ tables_1, d.before a0 Z = true) (ws : List Jvm.Cond) (h0 : Heap) (n0 : Nat) (p1 : Int32) (A : Nat → Addr) (K : Nat → ClassId)  (EN : own_St Z A K) (OL0 : Old Z n0 h0) :
    MetFree l own_m1 (head1 (Jvm.Cond.code own_m1 jdk_37_method_2_code 1 (some .int) :: ws) ({ frames := 0, cells := 0, slots := 0, locals := 0 } : Room)) (fun a U => a = #[(.ref (A 12))] ∧ Z.Warmed39 U.vm ∧ U.heap = h0) (fun _ _ _ _ _ => True) (fun _ U o U' => ∃ v L, o = .returned v ∧ (PQ (some (.int (12 : Int32))) h0 n0) v U'.heap L ∧ FrameEnd U o U' L ({ frames := 0, cells := 0, slots := 0, locals := 0 } : Room).cells ({ frames := 0, cells := 0, slots := 0, locals := 0 } : Room).slots) := by
  refine MetFree.of_bodySF (plainFor_of_name own_pn0) hisR ?_
  intro p e s m args below meth c s₁ Bd hml0 hP hK
  obtain ⟨rfl, hZ, hh⟩ := hP
  have hx := Bd.exec
  have hby := Bd.bytes
  have hml : c.maxLocals = 1 := hml0
  have hown : s.vm.findClass "java/lang/Enum" = some m.cls := findClass_of_methodNamed Bd.named
  have hnm := (name_of_methodNamed Bd.named Bd.method).1
  have X0 : Stand p l e ({ frames := 0, cells := 0, slots := 0, locals := 0 } : Room) s m #[(.ref (A 12))] below meth c s₁ [] 0 0 := Stand.of_body Bd
  have e0 : s₁.heap = h0 := by rw [← hh, Bd.state]; rfl
  have N0 := Fr.nil n0
  have pre0 : ∀ t, Steps p.tables e below (s₁.setTop (mkF m 0 #[.val (.ref (A 12))] [])) t → Steps p.tables e below (s₁.setTop (entryFrame m #[(.ref (A 12))] 1)) t := fun t k => castTop (own_ef_rm30 m p1 A K ) k
  have KK0 : Keep h0 h0 [] := Keep.refl _ _
  obtain ⟨T261, X261, e261, st261⟩ := getF X0 hx hZ hown (host := "") (Or.inl (hw _ (List.mem_of_getElem? (i := 63) rfl))) Via.refl e0 (EN.2.2.2.2.2.2.2.2.1.2.1.ext OL0.2) (g := (mkF m 1 #[.val (.ref (A 12))] [(.ref (A 12))])) rfl rfl (hb hby own_d_jdk_37_method_2_code_1)
  obtain ⟨fs, hr, hrun, hended, hW, hsame⟩ := X261.leave (v := some (.int (12 : Int32))) (fun h => by rw [Bd.returns] at h; cases h)
  refine ⟨_, _, pre0 _ ?_, hrun, hended, _, _, rfl, ?_, ⟨_, rfl⟩, hW, hsame.mono (by decide) (by decide)⟩
  · show Steps p.tables e below (s₁.setTop (mkF m 0 #[.val (.ref (A 12))] [])) _
    refine XS.aloadN X0.here hx rfl (hb hby own_d_jdk_37_method_2_code_0) rfl rfl ?_
    show Steps p.tables e below (s₁.setTop (mkF m 1 #[.val (.ref (A 12))] [(.ref (A 12))])) _
    refine st261 _ ?_
    show Steps p.tables e below (T261.setTop (mkF m 4 #[.val (.ref (A 12))] [(.int (12 : Int32))])) _
    exact retI X261 hx Bd.returns (hb hby own_d_jdk_37_method_2_code_4) hr
  · show PQ (some (.int (12 : Int32))) h0 n0 _ T261.heap _
    rw [e261]
    exact ⟨rfl, N0, rfl⟩
theorem own_ef_rm29 (m : MethodId) (p1 : Int32) (A : Nat → Addr) (K : Nat → ClassId)  : entryFrame m #[(.ref (A 12))] 2 = mkF m 0 #[.val (.ref (A 12)), .unset] [] := by first | (simp [entryFrame, mkF, argsToLocals, Value.category, maxLocals]; done) | rfl
set_option maxRecDepth 65536 in
set_option maxHeartbeats 40000000 in
theorem rm29 (l : Launch) (Z : State) (a0 : Array Value) (hw : ∀ d ∈ tables_1, d.before a0 Z = true) (ws : List Jvm.Cond) (h0 : Heap) (n0 : Nat) (p1 : Int32) (A : Nat → Addr) (K : Nat → ClassId)  (EN : own_St Z A K) (OL0 : Old Z n0 h0) :
    MetFree l own_m0 (head1 (Jvm.Cond.code own_m0 prog_32_method_2_code 2 (some (.object "com/example/dongl/dongl/core/ErrorCode")) :: ws) ({ frames := 1, cells := 0, slots := 0, locals := 13 } : Room)) (fun a U => a = #[(.ref (A 12))] ∧ Z.Warmed39 U.vm ∧ U.heap = h0) (fun _ _ _ _ _ => True) (fun _ U o U' => ∃ v L, o = .returned v ∧ (PQ (some (.ref (A 20))) h0 n0) v U'.heap L ∧ FrameEnd U o U' L ({ frames := 1, cells := 0, slots := 0, locals := 13 } : Room).cells ({ frames := 1, cells := 0, slots := 0, locals := 13 } : Room).slots) := by
  refine MetFree.of_bodySF (plainFor_of_name own_pn1) hisR ?_
  intro p e s m args below meth c s₁ Bd hml0 hP hK
  obtain ⟨rfl, hZ, hh⟩ := hP
  have hx := Bd.exec
  have hby := Bd.bytes
  have hml : c.maxLocals = 2 := hml0
  have hown : s.vm.findClass "com/example/dongl/dongl/server/ClientRefusals" = some m.cls := findClass_of_methodNamed Bd.named
  have hnm := (name_of_methodNamed Bd.named Bd.method).1
  have X0 : Stand p l e ({ frames := 1, cells := 0, slots := 0, locals := 13 } : Room) s m #[(.ref (A 12))] below meth c s₁ [] 0 0 := Stand.of_body Bd
  have e0 : s₁.heap = h0 := by rw [← hh, Bd.state]; rfl
  have N0 := Fr.nil n0
  have pre0 : ∀ t, Steps p.tables e below (s₁.setTop (mkF m 0 #[.val (.ref (A 12)), .unset] [])) t → Steps p.tables e below (s₁.setTop (entryFrame m #[(.ref (A 12))] 2)) t := fun t k => castTop (own_ef_rm29 m p1 A K ) k
  have KK0 : Keep h0 h0 [] := Keep.refl _ _
  obtain ⟨T260, X260, e260, st260⟩ := getS2 X0 hx hZ hown (host := "") (Or.inl (hw _ (List.mem_of_getElem? (i := 53) rfl))) Via.refl e0 (EN.2.2.2.2.2.1.2.2.2.2.1.ext OL0.2) (g := (mkF m 0 #[.val (.ref (A 12)), .unset] [])) rfl (hb hby own_d_prog_32_method_2_code_0)
  obtain ⟨cq262, kq262, q262a, q262b, q262c⟩ := isOf hZ e260 (EN.2.2.2.1.2.1.ext OL0.2)
  obtain ⟨_, _, ⟨T262, L262, k262, n262⟩, -, X262, ⟨Lc262, hQ262, l262, y262, z262⟩, st262⟩ := X260.virtualBackUp hx (x := own_m2) (y := own_m1) (owner := "java/lang/Enum") hown (mvT hZ (hw _ (List.mem_of_getElem? (i := 56) rfl))) (mvT hZ (hw _ (List.mem_of_getElem? (i := 57) rfl))) (mvT hZ (hw _ (List.mem_of_getElem? (i := 58) rfl))) (by decide) (mvT hZ (hw _ (List.mem_of_getElem? (i := 60) rfl))) (mvT hZ (hw _ (List.mem_of_getElem? (i := 59) rfl))) (backOf (W := 1) (rm30 l Z a0 hw [] h0 n0 p1 A K EN OL0) hZ (hw _ (List.mem_of_getElem? (i := 62) rfl)) (hw _ (List.mem_of_getElem? (i := 61) rfl)) (by decide) (by decide)) q262a q262c (g := (mkF m 4 #[.val (.ref (A 12)), .unset] [(.ref (A 12)), (.ref (A 22))])) rfl (by rw [hml]; rfl) (Steps.refl _) (argsL := []) (rest := [(.ref (A 22))]) (lenOf own_pd0 rfl) rfl (by show 2 * 0 + _ ≤ _; exact Nat.le_of_eq rfl) (hb hby own_d_prog_32_method_2_code_4) (fun _ _ => ⟨rfl, e260, (by decide : 0 + 0 ≤ _), (by decide : 0 + 0 ≤ _)⟩)
  dsimp only [Pt.U, Pt.locs, Pt.cells, Pt.slots] at X262 l262 y262 z262 st262 hQ262
  replace X262 := own_sub X262 l262 y262 z262
  obtain ⟨rfl, N262q, e262⟩ := hQ262
  have N262 := Fr.app N0 N262q
  obtain ⟨cl263, Ar263, q263, Sz263, Nn263, Hh263, Gg263⟩ := (id (EN.2.2.2.2.2.1.2.2.2.2.2.1.ext OL0.2))
  have hin263 : ¬ ((12 : Int32) < 0 ∨ cl263.slots.size ≤ ((12 : Int32)).toNatClampNeg) := inb_of Sz263 ⟨by decide, by decide⟩
  have hat263 : cl263.slots[((12 : Int32)).toNatClampNeg]? = some (.int (2 : Int32)) := Has.at Hh263 hin263 rfl
  obtain ⟨T264, X264, e264, st264⟩ := getS2 X262 hx hZ hown (host := "") (Or.inl (hw _ (List.mem_of_getElem? (i := 65) rfl))) Via.refl e262 (EN.2.2.2.2.2.1.1.ext OL0.2) (g := (mkF m 70 #[.val (.ref (A 12)), .unset] [])) rfl (hb hby own_d_prog_32_method_2_code_70)
  obtain ⟨fs, hr, hrun, hended, hW, hsame⟩ := X264.leave (v := some (.ref (A 20))) (fun h => by rw [Bd.returns] at h; cases h)
  refine ⟨_, _, pre0 _ ?_, hrun, hended, _, _, rfl, ?_, ⟨_, rfl⟩, hW, hsame.mono (by decide) (by decide)⟩
  · show Steps p.tables e below (s₁.setTop (mkF m 0 #[.val (.ref (A 12)), .unset] [])) _
    refine st260 _ ?_
    show Steps p.tables e below (T260.setTop (mkF m 3 #[.val (.ref (A 12)), .unset] [(.ref (A 22))])) _
    refine XS.aloadN X260.here hx rfl (hb hby own_d_prog_32_method_2_code_3) rfl rfl ?_
    show Steps p.tables e below (T260.setTop (mkF m 4 #[.val (.ref (A 12)), .unset] [(.ref (A 12)), (.ref (A 22))])) _
    refine st262.trans ?_
    show Steps p.tables e below (T262.setTop (mkF m 7 #[.val (.ref (A 12)), .unset] [(.int (12 : Int32)), (.ref (A 22))])) _
    refine X262.iaload hx (j := (12 : Int32)) (v := (.int (2 : Int32))) (by rw [e262]; exact Ar263.1) (State.isArrayOf_alike hZ.alike Ar263.2.1) Ar263.2.2 hin263 hat263 (g := (mkF m 7 #[.val (.ref (A 12)), .unset] [(.int (12 : Int32)), (.ref (A 22))])) rfl rfl (hb hby own_d_prog_32_method_2_code_7) _ ?_
    show Steps p.tables e below (T262.setTop (mkF m 8 #[.val (.ref (A 12)), .unset] [(.int (2 : Int32))])) _
    refine XS.tswIn X262.here hx rfl (pc0 := 8) (pc' := 70) rfl (hb hby own_d_prog_32_method_2_code_8) rfl (by decide) (o := 62) (by decide) (by decide) (by decide) ?_
    show Steps p.tables e below (T262.setTop (mkF m 70 #[.val (.ref (A 12)), .unset] [])) _
    refine st264 _ ?_
    show Steps p.tables e below (T264.setTop (mkF m 73 #[.val (.ref (A 12)), .unset] [(.ref (A 20))])) _
    refine XS.goto X264.here hx rfl (pc0 := 73) (pc' := 83) rfl (hb hby own_d_prog_32_method_2_code_73) (by decide) (by decide) ?_
    show Steps p.tables e below (T264.setTop (mkF m 83 #[.val (.ref (A 12)), .unset] [(.ref (A 20))])) _
    refine XS.astoreN X264.here hx rfl (hb hby own_d_prog_32_method_2_code_83) rfl rfl (l' := #[.val (.ref (A 12)), .val (.ref (A 20))]) rfl ?_
    show Steps p.tables e below (T264.setTop (mkF m 84 #[.val (.ref (A 12)), .val (.ref (A 20))] [])) _
    refine XS.aloadN X264.here hx rfl (hb hby own_d_prog_32_method_2_code_84) rfl rfl ?_
    show Steps p.tables e below (T264.setTop (mkF m 85 #[.val (.ref (A 12)), .val (.ref (A 20))] [(.ref (A 20))])) _
    exact retOut X264 hx Bd.returns rfl (Or.inr (Or.inr (Or.inr (Or.inr ⟨rfl, rfl, rfl⟩)))) (hb hby own_d_prog_32_method_2_code_85) hr
  · show PQ (some (.ref (A 20))) h0 n0 _ T264.heap _
    rw [e264]
    exact ⟨rfl, N262, rfl⟩
theorem own_ef_rm32 (m : MethodId) (p1 : Int32) (A : Nat → Addr) (K : Nat → ClassId)  : entryFrame m #[(.ref (A 13))] 1 = mkF m 0 #[.val (.ref (A 13))] [] := by first | (simp [entryFrame, mkF, argsToLocals, Value.category, maxLocals]; done) | rfl
set_option maxRecDepth 65536 in
set_option maxHeartbeats 40000000 in
theorem rm32 (l : Launch) (Z : State) (a0 : Array Value) (hw : ∀ d ∈ tables_1, d.before a0 Z = true) (ws : List Jvm.Cond) (h0 : Heap) (n0 : Nat) (p1 : Int32) (A : Nat → Addr) (K : Nat → ClassId)  (EN : own_St Z A K) (OL0 : Old Z n0 h0) :
    MetFree l own_m1 (head1 (Jvm.Cond.code own_m1 jdk_37_method_2_code 1 (some .int) :: ws) ({ frames := 0, cells := 0, slots := 0, locals := 0 } : Room)) (fun a U => a = #[(.ref (A 13))] ∧ Z.Warmed39 U.vm ∧ U.heap = h0) (fun _ _ _ _ _ => True) (fun _ U o U' => ∃ v L, o = .returned v ∧ (PQ (some (.int (13 : Int32))) h0 n0) v U'.heap L ∧ FrameEnd U o U' L ({ frames := 0, cells := 0, slots := 0, locals := 0 } : Room).cells ({ frames := 0, cells := 0, slots := 0, locals := 0 } : Room).slots) := by
  refine MetFree.of_bodySF (plainFor_of_name own_pn0) hisR ?_
  intro p e s m args below meth c s₁ Bd hml0 hP hK
  obtain ⟨rfl, hZ, hh⟩ := hP
  have hx := Bd.exec
  have hby := Bd.bytes
  have hml : c.maxLocals = 1 := hml0
  have hown : s.vm.findClass "java/lang/Enum" = some m.cls := findClass_of_methodNamed Bd.named
  have hnm := (name_of_methodNamed Bd.named Bd.method).1
  have X0 : Stand p l e ({ frames := 0, cells := 0, slots := 0, locals := 0 } : Room) s m #[(.ref (A 13))] below meth c s₁ [] 0 0 := Stand.of_body Bd
  have e0 : s₁.heap = h0 := by rw [← hh, Bd.state]; rfl
  have N0 := Fr.nil n0
  have pre0 : ∀ t, Steps p.tables e below (s₁.setTop (mkF m 0 #[.val (.ref (A 13))] [])) t → Steps p.tables e below (s₁.setTop (entryFrame m #[(.ref (A 13))] 1)) t := fun t k => castTop (own_ef_rm32 m p1 A K ) k
  have KK0 : Keep h0 h0 [] := Keep.refl _ _
  obtain ⟨T271, X271, e271, st271⟩ := getF X0 hx hZ hown (host := "") (Or.inl (hw _ (List.mem_of_getElem? (i := 63) rfl))) Via.refl e0 (EN.2.2.2.2.2.2.2.2.1.2.2.1.ext OL0.2) (g := (mkF m 1 #[.val (.ref (A 13))] [(.ref (A 13))])) rfl rfl (hb hby own_d_jdk_37_method_2_code_1)
  obtain ⟨fs, hr, hrun, hended, hW, hsame⟩ := X271.leave (v := some (.int (13 : Int32))) (fun h => by rw [Bd.returns] at h; cases h)
  refine ⟨_, _, pre0 _ ?_, hrun, hended, _, _, rfl, ?_, ⟨_, rfl⟩, hW, hsame.mono (by decide) (by decide)⟩
  · show Steps p.tables e below (s₁.setTop (mkF m 0 #[.val (.ref (A 13))] [])) _
    refine XS.aloadN X0.here hx rfl (hb hby own_d_jdk_37_method_2_code_0) rfl rfl ?_
    show Steps p.tables e below (s₁.setTop (mkF m 1 #[.val (.ref (A 13))] [(.ref (A 13))])) _
    refine st271 _ ?_
    show Steps p.tables e below (T271.setTop (mkF m 4 #[.val (.ref (A 13))] [(.int (13 : Int32))])) _
    exact retI X271 hx Bd.returns (hb hby own_d_jdk_37_method_2_code_4) hr
  · show PQ (some (.int (13 : Int32))) h0 n0 _ T271.heap _
    rw [e271]
    exact ⟨rfl, N0, rfl⟩
theorem own_ef_rm31 (m : MethodId) (p1 : Int32) (A : Nat → Addr) (K : Nat → ClassId)  : entryFrame m #[(.ref (A 13))] 2 = mkF m 0 #[.val (.ref (A 13)), .unset] [] := by first | (simp [entryFrame, mkF, argsToLocals, Value.category, maxLocals]; done) | rfl
set_option maxRecDepth 65536 in
set_option maxHeartbeats 40000000 in
theorem rm31 (l : Launch) (Z : State) (a0 : Array Value) (hw : ∀ d ∈ tables_1, d.before a0 Z = true) (ws : List Jvm.Cond) (h0 : Heap) (n0 : Nat) (p1 : Int32) (A : Nat → Addr) (K : Nat → ClassId)  (EN : own_St Z A K) (OL0 : Old Z n0 h0) :
    MetFree l own_m0 (head1 (Jvm.Cond.code own_m0 prog_32_method_2_code 2 (some (.object "com/example/dongl/dongl/core/ErrorCode")) :: ws) ({ frames := 1, cells := 0, slots := 0, locals := 13 } : Room)) (fun a U => a = #[(.ref (A 13))] ∧ Z.Warmed39 U.vm ∧ U.heap = h0) (fun _ _ _ _ _ => True) (fun _ U o U' => ∃ v L, o = .returned v ∧ (PQ (some (.ref (A 19))) h0 n0) v U'.heap L ∧ FrameEnd U o U' L ({ frames := 1, cells := 0, slots := 0, locals := 13 } : Room).cells ({ frames := 1, cells := 0, slots := 0, locals := 13 } : Room).slots) := by
  refine MetFree.of_bodySF (plainFor_of_name own_pn1) hisR ?_
  intro p e s m args below meth c s₁ Bd hml0 hP hK
  obtain ⟨rfl, hZ, hh⟩ := hP
  have hx := Bd.exec
  have hby := Bd.bytes
  have hml : c.maxLocals = 2 := hml0
  have hown : s.vm.findClass "com/example/dongl/dongl/server/ClientRefusals" = some m.cls := findClass_of_methodNamed Bd.named
  have hnm := (name_of_methodNamed Bd.named Bd.method).1
  have X0 : Stand p l e ({ frames := 1, cells := 0, slots := 0, locals := 13 } : Room) s m #[(.ref (A 13))] below meth c s₁ [] 0 0 := Stand.of_body Bd
  have e0 : s₁.heap = h0 := by rw [← hh, Bd.state]; rfl
  have N0 := Fr.nil n0
  have pre0 : ∀ t, Steps p.tables e below (s₁.setTop (mkF m 0 #[.val (.ref (A 13)), .unset] [])) t → Steps p.tables e below (s₁.setTop (entryFrame m #[(.ref (A 13))] 2)) t := fun t k => castTop (own_ef_rm31 m p1 A K ) k
  have KK0 : Keep h0 h0 [] := Keep.refl _ _
  obtain ⟨T270, X270, e270, st270⟩ := getS2 X0 hx hZ hown (host := "") (Or.inl (hw _ (List.mem_of_getElem? (i := 53) rfl))) Via.refl e0 (EN.2.2.2.2.2.1.2.2.2.2.1.ext OL0.2) (g := (mkF m 0 #[.val (.ref (A 13)), .unset] [])) rfl (hb hby own_d_prog_32_method_2_code_0)
  obtain ⟨cq272, kq272, q272a, q272b, q272c⟩ := isOf hZ e270 (EN.2.2.2.1.2.2.2.1.ext OL0.2)
  obtain ⟨_, _, ⟨T272, L272, k272, n272⟩, -, X272, ⟨Lc272, hQ272, l272, y272, z272⟩, st272⟩ := X270.virtualBackUp hx (x := own_m2) (y := own_m1) (owner := "java/lang/Enum") hown (mvT hZ (hw _ (List.mem_of_getElem? (i := 56) rfl))) (mvT hZ (hw _ (List.mem_of_getElem? (i := 57) rfl))) (mvT hZ (hw _ (List.mem_of_getElem? (i := 58) rfl))) (by decide) (mvT hZ (hw _ (List.mem_of_getElem? (i := 60) rfl))) (mvT hZ (hw _ (List.mem_of_getElem? (i := 59) rfl))) (backOf (W := 1) (rm32 l Z a0 hw [] h0 n0 p1 A K EN OL0) hZ (hw _ (List.mem_of_getElem? (i := 62) rfl)) (hw _ (List.mem_of_getElem? (i := 61) rfl)) (by decide) (by decide)) q272a q272c (g := (mkF m 4 #[.val (.ref (A 13)), .unset] [(.ref (A 13)), (.ref (A 22))])) rfl (by rw [hml]; rfl) (Steps.refl _) (argsL := []) (rest := [(.ref (A 22))]) (lenOf own_pd0 rfl) rfl (by show 2 * 0 + _ ≤ _; exact Nat.le_of_eq rfl) (hb hby own_d_prog_32_method_2_code_4) (fun _ _ => ⟨rfl, e270, (by decide : 0 + 0 ≤ _), (by decide : 0 + 0 ≤ _)⟩)
  dsimp only [Pt.U, Pt.locs, Pt.cells, Pt.slots] at X272 l272 y272 z272 st272 hQ272
  replace X272 := own_sub X272 l272 y272 z272
  obtain ⟨rfl, N272q, e272⟩ := hQ272
  have N272 := Fr.app N0 N272q
  obtain ⟨cl273, Ar273, q273, Sz273, Nn273, Hh273, Gg273⟩ := (id (EN.2.2.2.2.2.1.2.2.2.2.2.1.ext OL0.2))
  have hin273 : ¬ ((13 : Int32) < 0 ∨ cl273.slots.size ≤ ((13 : Int32)).toNatClampNeg) := inb_of Sz273 ⟨by decide, by decide⟩
  have hat273 : cl273.slots[((13 : Int32)).toNatClampNeg]? = some (.int (7 : Int32)) := Has.at Hh273 hin273 rfl
  obtain ⟨T274, X274, e274, st274⟩ := getS2 X272 hx hZ hown (host := "") (Or.inl (hw _ (List.mem_of_getElem? (i := 66) rfl))) Via.refl e272 (EN.2.2.2.2.1.2.2.2.2.2.2.1.ext OL0.2) (g := (mkF m 76 #[.val (.ref (A 13)), .unset] [])) rfl (hb hby own_d_prog_32_method_2_code_76)
  obtain ⟨fs, hr, hrun, hended, hW, hsame⟩ := X274.leave (v := some (.ref (A 19))) (fun h => by rw [Bd.returns] at h; cases h)
  refine ⟨_, _, pre0 _ ?_, hrun, hended, _, _, rfl, ?_, ⟨_, rfl⟩, hW, hsame.mono (by decide) (by decide)⟩
  · show Steps p.tables e below (s₁.setTop (mkF m 0 #[.val (.ref (A 13)), .unset] [])) _
    refine st270 _ ?_
    show Steps p.tables e below (T270.setTop (mkF m 3 #[.val (.ref (A 13)), .unset] [(.ref (A 22))])) _
    refine XS.aloadN X270.here hx rfl (hb hby own_d_prog_32_method_2_code_3) rfl rfl ?_
    show Steps p.tables e below (T270.setTop (mkF m 4 #[.val (.ref (A 13)), .unset] [(.ref (A 13)), (.ref (A 22))])) _
    refine st272.trans ?_
    show Steps p.tables e below (T272.setTop (mkF m 7 #[.val (.ref (A 13)), .unset] [(.int (13 : Int32)), (.ref (A 22))])) _
    refine X272.iaload hx (j := (13 : Int32)) (v := (.int (7 : Int32))) (by rw [e272]; exact Ar273.1) (State.isArrayOf_alike hZ.alike Ar273.2.1) Ar273.2.2 hin273 hat273 (g := (mkF m 7 #[.val (.ref (A 13)), .unset] [(.int (13 : Int32)), (.ref (A 22))])) rfl rfl (hb hby own_d_prog_32_method_2_code_7) _ ?_
    show Steps p.tables e below (T272.setTop (mkF m 8 #[.val (.ref (A 13)), .unset] [(.int (7 : Int32))])) _
    refine XS.tswIn X272.here hx rfl (pc0 := 8) (pc' := 76) rfl (hb hby own_d_prog_32_method_2_code_8) rfl (by decide) (o := 68) (by decide) (by decide) (by decide) ?_
    show Steps p.tables e below (T272.setTop (mkF m 76 #[.val (.ref (A 13)), .unset] [])) _
    refine st274 _ ?_
    show Steps p.tables e below (T274.setTop (mkF m 79 #[.val (.ref (A 13)), .unset] [(.ref (A 19))])) _
    refine XS.goto X274.here hx rfl (pc0 := 79) (pc' := 83) rfl (hb hby own_d_prog_32_method_2_code_79) (by decide) (by decide) ?_
    show Steps p.tables e below (T274.setTop (mkF m 83 #[.val (.ref (A 13)), .unset] [(.ref (A 19))])) _
    refine XS.astoreN X274.here hx rfl (hb hby own_d_prog_32_method_2_code_83) rfl rfl (l' := #[.val (.ref (A 13)), .val (.ref (A 19))]) rfl ?_
    show Steps p.tables e below (T274.setTop (mkF m 84 #[.val (.ref (A 13)), .val (.ref (A 19))] [])) _
    refine XS.aloadN X274.here hx rfl (hb hby own_d_prog_32_method_2_code_84) rfl rfl ?_
    show Steps p.tables e below (T274.setTop (mkF m 85 #[.val (.ref (A 13)), .val (.ref (A 19))] [(.ref (A 19))])) _
    exact retOut X274 hx Bd.returns rfl (Or.inr (Or.inr (Or.inr (Or.inr ⟨rfl, rfl, rfl⟩)))) (hb hby own_d_prog_32_method_2_code_85) hr
  · show PQ (some (.ref (A 19))) h0 n0 _ T274.heap _
    rw [e274]
    exact ⟨rfl, N272, rfl⟩
theorem own_ef_rm34 (m : MethodId) (p1 : Int32) (A : Nat → Addr) (K : Nat → ClassId)  : entryFrame m #[(.ref (A 14))] 1 = mkF m 0 #[.val (.ref (A 14))] [] := by first | (simp [entryFrame, mkF, argsToLocals, Value.category, maxLocals]; done) | rfl
set_option maxRecDepth 65536 in
set_option maxHeartbeats 40000000 in
theorem rm34 (l : Launch) (Z : State) (a0 : Array Value) (hw : ∀ d ∈ tables_1, d.before a0 Z = true) (ws : List Jvm.Cond) (h0 : Heap) (n0 : Nat) (p1 : Int32) (A : Nat → Addr) (K : Nat → ClassId)  (EN : own_St Z A K) (OL0 : Old Z n0 h0) :
    MetFree l own_m1 (head1 (Jvm.Cond.code own_m1 jdk_37_method_2_code 1 (some .int) :: ws) ({ frames := 0, cells := 0, slots := 0, locals := 0 } : Room)) (fun a U => a = #[(.ref (A 14))] ∧ Z.Warmed39 U.vm ∧ U.heap = h0) (fun _ _ _ _ _ => True) (fun _ U o U' => ∃ v L, o = .returned v ∧ (PQ (some (.int (14 : Int32))) h0 n0) v U'.heap L ∧ FrameEnd U o U' L ({ frames := 0, cells := 0, slots := 0, locals := 0 } : Room).cells ({ frames := 0, cells := 0, slots := 0, locals := 0 } : Room).slots) := by
  refine MetFree.of_bodySF (plainFor_of_name own_pn0) hisR ?_
  intro p e s m args below meth c s₁ Bd hml0 hP hK
  obtain ⟨rfl, hZ, hh⟩ := hP
  have hx := Bd.exec
  have hby := Bd.bytes
  have hml : c.maxLocals = 1 := hml0
  have hown : s.vm.findClass "java/lang/Enum" = some m.cls := findClass_of_methodNamed Bd.named
  have hnm := (name_of_methodNamed Bd.named Bd.method).1
  have X0 : Stand p l e ({ frames := 0, cells := 0, slots := 0, locals := 0 } : Room) s m #[(.ref (A 14))] below meth c s₁ [] 0 0 := Stand.of_body Bd
  have e0 : s₁.heap = h0 := by rw [← hh, Bd.state]; rfl
  have N0 := Fr.nil n0
  have pre0 : ∀ t, Steps p.tables e below (s₁.setTop (mkF m 0 #[.val (.ref (A 14))] [])) t → Steps p.tables e below (s₁.setTop (entryFrame m #[(.ref (A 14))] 1)) t := fun t k => castTop (own_ef_rm34 m p1 A K ) k
  have KK0 : Keep h0 h0 [] := Keep.refl _ _
  obtain ⟨T281, X281, e281, st281⟩ := getF X0 hx hZ hown (host := "") (Or.inl (hw _ (List.mem_of_getElem? (i := 63) rfl))) Via.refl e0 (EN.2.2.2.2.2.2.2.2.1.1.ext OL0.2) (g := (mkF m 1 #[.val (.ref (A 14))] [(.ref (A 14))])) rfl rfl (hb hby own_d_jdk_37_method_2_code_1)
  obtain ⟨fs, hr, hrun, hended, hW, hsame⟩ := X281.leave (v := some (.int (14 : Int32))) (fun h => by rw [Bd.returns] at h; cases h)
  refine ⟨_, _, pre0 _ ?_, hrun, hended, _, _, rfl, ?_, ⟨_, rfl⟩, hW, hsame.mono (by decide) (by decide)⟩
  · show Steps p.tables e below (s₁.setTop (mkF m 0 #[.val (.ref (A 14))] [])) _
    refine XS.aloadN X0.here hx rfl (hb hby own_d_jdk_37_method_2_code_0) rfl rfl ?_
    show Steps p.tables e below (s₁.setTop (mkF m 1 #[.val (.ref (A 14))] [(.ref (A 14))])) _
    refine st281 _ ?_
    show Steps p.tables e below (T281.setTop (mkF m 4 #[.val (.ref (A 14))] [(.int (14 : Int32))])) _
    exact retI X281 hx Bd.returns (hb hby own_d_jdk_37_method_2_code_4) hr
  · show PQ (some (.int (14 : Int32))) h0 n0 _ T281.heap _
    rw [e281]
    exact ⟨rfl, N0, rfl⟩
theorem own_ef_rm33 (m : MethodId) (p1 : Int32) (A : Nat → Addr) (K : Nat → ClassId)  : entryFrame m #[(.ref (A 14))] 2 = mkF m 0 #[.val (.ref (A 14)), .unset] [] := by first | (simp [entryFrame, mkF, argsToLocals, Value.category, maxLocals]; done) | rfl
set_option maxRecDepth 65536 in
set_option maxHeartbeats 40000000 in
theorem rm33 (l : Launch) (Z : State) (a0 : Array Value) (hw : ∀ d ∈ tables_1, d.before a0 Z = true) (ws : List Jvm.Cond) (h0 : Heap) (n0 : Nat) (p1 : Int32) (A : Nat → Addr) (K : Nat → ClassId)  (EN : own_St Z A K) (OL0 : Old Z n0 h0) :
    MetFree l own_m0 (head1 (Jvm.Cond.code own_m0 prog_32_method_2_code 2 (some (.object "com/example/dongl/dongl/core/ErrorCode")) :: ws) ({ frames := 1, cells := 0, slots := 0, locals := 13 } : Room)) (fun a U => a = #[(.ref (A 14))] ∧ Z.Warmed39 U.vm ∧ U.heap = h0) (fun _ _ _ _ _ => True) (fun _ U o U' => ∃ v L, o = .returned v ∧ (PQ (some (.ref (A 19))) h0 n0) v U'.heap L ∧ FrameEnd U o U' L ({ frames := 1, cells := 0, slots := 0, locals := 13 } : Room).cells ({ frames := 1, cells := 0, slots := 0, locals := 13 } : Room).slots) := by
  refine MetFree.of_bodySF (plainFor_of_name own_pn1) hisR ?_
  intro p e s m args below meth c s₁ Bd hml0 hP hK
  obtain ⟨rfl, hZ, hh⟩ := hP
  have hx := Bd.exec
  have hby := Bd.bytes
  have hml : c.maxLocals = 2 := hml0
  have hown : s.vm.findClass "com/example/dongl/dongl/server/ClientRefusals" = some m.cls := findClass_of_methodNamed Bd.named
  have hnm := (name_of_methodNamed Bd.named Bd.method).1
  have X0 : Stand p l e ({ frames := 1, cells := 0, slots := 0, locals := 13 } : Room) s m #[(.ref (A 14))] below meth c s₁ [] 0 0 := Stand.of_body Bd
  have e0 : s₁.heap = h0 := by rw [← hh, Bd.state]; rfl
  have N0 := Fr.nil n0
  have pre0 : ∀ t, Steps p.tables e below (s₁.setTop (mkF m 0 #[.val (.ref (A 14)), .unset] [])) t → Steps p.tables e below (s₁.setTop (entryFrame m #[(.ref (A 14))] 2)) t := fun t k => castTop (own_ef_rm33 m p1 A K ) k
  have KK0 : Keep h0 h0 [] := Keep.refl _ _
  obtain ⟨T280, X280, e280, st280⟩ := getS2 X0 hx hZ hown (host := "") (Or.inl (hw _ (List.mem_of_getElem? (i := 53) rfl))) Via.refl e0 (EN.2.2.2.2.2.1.2.2.2.2.1.ext OL0.2) (g := (mkF m 0 #[.val (.ref (A 14)), .unset] [])) rfl (hb hby own_d_prog_32_method_2_code_0)
  obtain ⟨cq282, kq282, q282a, q282b, q282c⟩ := isOf hZ e280 (EN.2.2.2.1.2.2.2.2.2.1.ext OL0.2)
  obtain ⟨_, _, ⟨T282, L282, k282, n282⟩, -, X282, ⟨Lc282, hQ282, l282, y282, z282⟩, st282⟩ := X280.virtualBackUp hx (x := own_m2) (y := own_m1) (owner := "java/lang/Enum") hown (mvT hZ (hw _ (List.mem_of_getElem? (i := 56) rfl))) (mvT hZ (hw _ (List.mem_of_getElem? (i := 57) rfl))) (mvT hZ (hw _ (List.mem_of_getElem? (i := 58) rfl))) (by decide) (mvT hZ (hw _ (List.mem_of_getElem? (i := 60) rfl))) (mvT hZ (hw _ (List.mem_of_getElem? (i := 59) rfl))) (backOf (W := 1) (rm34 l Z a0 hw [] h0 n0 p1 A K EN OL0) hZ (hw _ (List.mem_of_getElem? (i := 62) rfl)) (hw _ (List.mem_of_getElem? (i := 61) rfl)) (by decide) (by decide)) q282a q282c (g := (mkF m 4 #[.val (.ref (A 14)), .unset] [(.ref (A 14)), (.ref (A 22))])) rfl (by rw [hml]; rfl) (Steps.refl _) (argsL := []) (rest := [(.ref (A 22))]) (lenOf own_pd0 rfl) rfl (by show 2 * 0 + _ ≤ _; exact Nat.le_of_eq rfl) (hb hby own_d_prog_32_method_2_code_4) (fun _ _ => ⟨rfl, e280, (by decide : 0 + 0 ≤ _), (by decide : 0 + 0 ≤ _)⟩)
  dsimp only [Pt.U, Pt.locs, Pt.cells, Pt.slots] at X282 l282 y282 z282 st282 hQ282
  replace X282 := own_sub X282 l282 y282 z282
  obtain ⟨rfl, N282q, e282⟩ := hQ282
  have N282 := Fr.app N0 N282q
  obtain ⟨cl283, Ar283, q283, Sz283, Nn283, Hh283, Gg283⟩ := (id (EN.2.2.2.2.2.1.2.2.2.2.2.1.ext OL0.2))
  have hin283 : ¬ ((14 : Int32) < 0 ∨ cl283.slots.size ≤ ((14 : Int32)).toNatClampNeg) := inb_of Sz283 ⟨by decide, by decide⟩
  have hat283 : cl283.slots[((14 : Int32)).toNatClampNeg]? = some (.int (9 : Int32)) := Has.at Hh283 hin283 rfl
  obtain ⟨T284, X284, e284, st284⟩ := getS2 X282 hx hZ hown (host := "") (Or.inl (hw _ (List.mem_of_getElem? (i := 66) rfl))) Via.refl e282 (EN.2.2.2.2.1.2.2.2.2.2.2.1.ext OL0.2) (g := (mkF m 76 #[.val (.ref (A 14)), .unset] [])) rfl (hb hby own_d_prog_32_method_2_code_76)
  obtain ⟨fs, hr, hrun, hended, hW, hsame⟩ := X284.leave (v := some (.ref (A 19))) (fun h => by rw [Bd.returns] at h; cases h)
  refine ⟨_, _, pre0 _ ?_, hrun, hended, _, _, rfl, ?_, ⟨_, rfl⟩, hW, hsame.mono (by decide) (by decide)⟩
  · show Steps p.tables e below (s₁.setTop (mkF m 0 #[.val (.ref (A 14)), .unset] [])) _
    refine st280 _ ?_
    show Steps p.tables e below (T280.setTop (mkF m 3 #[.val (.ref (A 14)), .unset] [(.ref (A 22))])) _
    refine XS.aloadN X280.here hx rfl (hb hby own_d_prog_32_method_2_code_3) rfl rfl ?_
    show Steps p.tables e below (T280.setTop (mkF m 4 #[.val (.ref (A 14)), .unset] [(.ref (A 14)), (.ref (A 22))])) _
    refine st282.trans ?_
    show Steps p.tables e below (T282.setTop (mkF m 7 #[.val (.ref (A 14)), .unset] [(.int (14 : Int32)), (.ref (A 22))])) _
    refine X282.iaload hx (j := (14 : Int32)) (v := (.int (9 : Int32))) (by rw [e282]; exact Ar283.1) (State.isArrayOf_alike hZ.alike Ar283.2.1) Ar283.2.2 hin283 hat283 (g := (mkF m 7 #[.val (.ref (A 14)), .unset] [(.int (14 : Int32)), (.ref (A 22))])) rfl rfl (hb hby own_d_prog_32_method_2_code_7) _ ?_
    show Steps p.tables e below (T282.setTop (mkF m 8 #[.val (.ref (A 14)), .unset] [(.int (9 : Int32))])) _
    refine XS.tswIn X282.here hx rfl (pc0 := 8) (pc' := 76) rfl (hb hby own_d_prog_32_method_2_code_8) rfl (by decide) (o := 68) (by decide) (by decide) (by decide) ?_
    show Steps p.tables e below (T282.setTop (mkF m 76 #[.val (.ref (A 14)), .unset] [])) _
    refine st284 _ ?_
    show Steps p.tables e below (T284.setTop (mkF m 79 #[.val (.ref (A 14)), .unset] [(.ref (A 19))])) _
    refine XS.goto X284.here hx rfl (pc0 := 79) (pc' := 83) rfl (hb hby own_d_prog_32_method_2_code_79) (by decide) (by decide) ?_
    show Steps p.tables e below (T284.setTop (mkF m 83 #[.val (.ref (A 14)), .unset] [(.ref (A 19))])) _
    refine XS.astoreN X284.here hx rfl (hb hby own_d_prog_32_method_2_code_83) rfl rfl (l' := #[.val (.ref (A 14)), .val (.ref (A 19))]) rfl ?_
    show Steps p.tables e below (T284.setTop (mkF m 84 #[.val (.ref (A 14)), .val (.ref (A 19))] [])) _
    refine XS.aloadN X284.here hx rfl (hb hby own_d_prog_32_method_2_code_84) rfl rfl ?_
    show Steps p.tables e below (T284.setTop (mkF m 85 #[.val (.ref (A 14)), .val (.ref (A 19))] [(.ref (A 19))])) _
    exact retOut X284 hx Bd.returns rfl (Or.inr (Or.inr (Or.inr (Or.inr ⟨rfl, rfl, rfl⟩)))) (hb hby own_d_prog_32_method_2_code_85) hr
  · show PQ (some (.ref (A 19))) h0 n0 _ T284.heap _
    rw [e284]
    exact ⟨rfl, N282, rfl⟩
theorem own_ef_rm36 (m : MethodId) (p1 : Int32) (A : Nat → Addr) (K : Nat → ClassId)  : entryFrame m #[(.ref (A 15))] 1 = mkF m 0 #[.val (.ref (A 15))] [] := by first | (simp [entryFrame, mkF, argsToLocals, Value.category, maxLocals]; done) | rfl
set_option maxRecDepth 65536 in
set_option maxHeartbeats 40000000 in
theorem rm36 (l : Launch) (Z : State) (a0 : Array Value) (hw : ∀ d ∈ tables_1, d.before a0 Z = true) (ws : List Jvm.Cond) (h0 : Heap) (n0 : Nat) (p1 : Int32) (A : Nat → Addr) (K : Nat → ClassId)  (EN : own_St Z A K) (OL0 : Old Z n0 h0) :
    MetFree l own_m1 (head1 (Jvm.Cond.code own_m1 jdk_37_method_2_code 1 (some .int) :: ws) ({ frames := 0, cells := 0, slots := 0, locals := 0 } : Room)) (fun a U => a = #[(.ref (A 15))] ∧ Z.Warmed39 U.vm ∧ U.heap = h0) (fun _ _ _ _ _ => True) (fun _ U o U' => ∃ v L, o = .returned v ∧ (PQ (some (.int (15 : Int32))) h0 n0) v U'.heap L ∧ FrameEnd U o U' L ({ frames := 0, cells := 0, slots := 0, locals := 0 } : Room).cells ({ frames := 0, cells := 0, slots := 0, locals := 0 } : Room).slots) := by
  refine MetFree.of_bodySF (plainFor_of_name own_pn0) hisR ?_
  intro p e s m args below meth c s₁ Bd hml0 hP hK
  obtain ⟨rfl, hZ, hh⟩ := hP
  have hx := Bd.exec
  have hby := Bd.bytes
  have hml : c.maxLocals = 1 := hml0
  have hown : s.vm.findClass "java/lang/Enum" = some m.cls := findClass_of_methodNamed Bd.named
  have hnm := (name_of_methodNamed Bd.named Bd.method).1
  have X0 : Stand p l e ({ frames := 0, cells := 0, slots := 0, locals := 0 } : Room) s m #[(.ref (A 15))] below meth c s₁ [] 0 0 := Stand.of_body Bd
  have e0 : s₁.heap = h0 := by rw [← hh, Bd.state]; rfl
  have N0 := Fr.nil n0
  have pre0 : ∀ t, Steps p.tables e below (s₁.setTop (mkF m 0 #[.val (.ref (A 15))] [])) t → Steps p.tables e below (s₁.setTop (entryFrame m #[(.ref (A 15))] 1)) t := fun t k => castTop (own_ef_rm36 m p1 A K ) k
  have KK0 : Keep h0 h0 [] := Keep.refl _ _
  obtain ⟨T291, X291, e291, st291⟩ := getF X0 hx hZ hown (host := "") (Or.inl (hw _ (List.mem_of_getElem? (i := 63) rfl))) Via.refl e0 (EN.2.2.2.2.2.2.2.1.2.2.2.2.2.1.ext OL0.2) (g := (mkF m 1 #[.val (.ref (A 15))] [(.ref (A 15))])) rfl rfl (hb hby own_d_jdk_37_method_2_code_1)
  obtain ⟨fs, hr, hrun, hended, hW, hsame⟩ := X291.leave (v := some (.int (15 : Int32))) (fun h => by rw [Bd.returns] at h; cases h)
  refine ⟨_, _, pre0 _ ?_, hrun, hended, _, _, rfl, ?_, ⟨_, rfl⟩, hW, hsame.mono (by decide) (by decide)⟩
  · show Steps p.tables e below (s₁.setTop (mkF m 0 #[.val (.ref (A 15))] [])) _
    refine XS.aloadN X0.here hx rfl (hb hby own_d_jdk_37_method_2_code_0) rfl rfl ?_
    show Steps p.tables e below (s₁.setTop (mkF m 1 #[.val (.ref (A 15))] [(.ref (A 15))])) _
    refine st291 _ ?_
    show Steps p.tables e below (T291.setTop (mkF m 4 #[.val (.ref (A 15))] [(.int (15 : Int32))])) _
    exact retI X291 hx Bd.returns (hb hby own_d_jdk_37_method_2_code_4) hr
  · show PQ (some (.int (15 : Int32))) h0 n0 _ T291.heap _
    rw [e291]
    exact ⟨rfl, N0, rfl⟩
theorem own_d_prog_32_method_2_code_64 : decode prog_32_method_2_code 64 = .ok (.getstatic 19, 3) := by decide +kernel
theorem own_d_prog_32_method_2_code_67 : decode prog_32_method_2_code 67 = .ok (.goto 16, 3) := by decide +kernel
theorem own_ef_rm35 (m : MethodId) (p1 : Int32) (A : Nat → Addr) (K : Nat → ClassId)  : entryFrame m #[(.ref (A 15))] 2 = mkF m 0 #[.val (.ref (A 15)), .unset] [] := by first | (simp [entryFrame, mkF, argsToLocals, Value.category, maxLocals]; done) | rfl
set_option maxRecDepth 65536 in
set_option maxHeartbeats 40000000 in
theorem rm35 (l : Launch) (Z : State) (a0 : Array Value) (hw : ∀ d ∈ tables_1, d.before a0 Z = true) (ws : List Jvm.Cond) (h0 : Heap) (n0 : Nat) (p1 : Int32) (A : Nat → Addr) (K : Nat → ClassId)  (EN : own_St Z A K) (OL0 : Old Z n0 h0) :
    MetFree l own_m0 (head1 (Jvm.Cond.code own_m0 prog_32_method_2_code 2 (some (.object "com/example/dongl/dongl/core/ErrorCode")) :: ws) ({ frames := 1, cells := 0, slots := 0, locals := 13 } : Room)) (fun a U => a = #[(.ref (A 15))] ∧ Z.Warmed39 U.vm ∧ U.heap = h0) (fun _ _ _ _ _ => True) (fun _ U o U' => ∃ v L, o = .returned v ∧ (PQ (some (.ref (A 18))) h0 n0) v U'.heap L ∧ FrameEnd U o U' L ({ frames := 1, cells := 0, slots := 0, locals := 13 } : Room).cells ({ frames := 1, cells := 0, slots := 0, locals := 13 } : Room).slots) := by
  refine MetFree.of_bodySF (plainFor_of_name own_pn1) hisR ?_
  intro p e s m args below meth c s₁ Bd hml0 hP hK
  obtain ⟨rfl, hZ, hh⟩ := hP
  have hx := Bd.exec
  have hby := Bd.bytes
  have hml : c.maxLocals = 2 := hml0
  have hown : s.vm.findClass "com/example/dongl/dongl/server/ClientRefusals" = some m.cls := findClass_of_methodNamed Bd.named
  have hnm := (name_of_methodNamed Bd.named Bd.method).1
  have X0 : Stand p l e ({ frames := 1, cells := 0, slots := 0, locals := 13 } : Room) s m #[(.ref (A 15))] below meth c s₁ [] 0 0 := Stand.of_body Bd
  have e0 : s₁.heap = h0 := by rw [← hh, Bd.state]; rfl
  have N0 := Fr.nil n0
  have pre0 : ∀ t, Steps p.tables e below (s₁.setTop (mkF m 0 #[.val (.ref (A 15)), .unset] [])) t → Steps p.tables e below (s₁.setTop (entryFrame m #[(.ref (A 15))] 2)) t := fun t k => castTop (own_ef_rm35 m p1 A K ) k
  have KK0 : Keep h0 h0 [] := Keep.refl _ _
  obtain ⟨T290, X290, e290, st290⟩ := getS2 X0 hx hZ hown (host := "") (Or.inl (hw _ (List.mem_of_getElem? (i := 53) rfl))) Via.refl e0 (EN.2.2.2.2.2.1.2.2.2.2.1.ext OL0.2) (g := (mkF m 0 #[.val (.ref (A 15)), .unset] [])) rfl (hb hby own_d_prog_32_method_2_code_0)
  obtain ⟨cq292, kq292, q292a, q292b, q292c⟩ := isOf hZ e290 (EN.2.2.2.1.2.2.2.2.2.2.2.1.ext OL0.2)
  obtain ⟨_, _, ⟨T292, L292, k292, n292⟩, -, X292, ⟨Lc292, hQ292, l292, y292, z292⟩, st292⟩ := X290.virtualBackUp hx (x := own_m2) (y := own_m1) (owner := "java/lang/Enum") hown (mvT hZ (hw _ (List.mem_of_getElem? (i := 56) rfl))) (mvT hZ (hw _ (List.mem_of_getElem? (i := 57) rfl))) (mvT hZ (hw _ (List.mem_of_getElem? (i := 58) rfl))) (by decide) (mvT hZ (hw _ (List.mem_of_getElem? (i := 60) rfl))) (mvT hZ (hw _ (List.mem_of_getElem? (i := 59) rfl))) (backOf (W := 1) (rm36 l Z a0 hw [] h0 n0 p1 A K EN OL0) hZ (hw _ (List.mem_of_getElem? (i := 62) rfl)) (hw _ (List.mem_of_getElem? (i := 61) rfl)) (by decide) (by decide)) q292a q292c (g := (mkF m 4 #[.val (.ref (A 15)), .unset] [(.ref (A 15)), (.ref (A 22))])) rfl (by rw [hml]; rfl) (Steps.refl _) (argsL := []) (rest := [(.ref (A 22))]) (lenOf own_pd0 rfl) rfl (by show 2 * 0 + _ ≤ _; exact Nat.le_of_eq rfl) (hb hby own_d_prog_32_method_2_code_4) (fun _ _ => ⟨rfl, e290, (by decide : 0 + 0 ≤ _), (by decide : 0 + 0 ≤ _)⟩)
  dsimp only [Pt.U, Pt.locs, Pt.cells, Pt.slots] at X292 l292 y292 z292 st292 hQ292
  replace X292 := own_sub X292 l292 y292 z292
  obtain ⟨rfl, N292q, e292⟩ := hQ292
  have N292 := Fr.app N0 N292q
  obtain ⟨cl293, Ar293, q293, Sz293, Nn293, Hh293, Gg293⟩ := (id (EN.2.2.2.2.2.1.2.2.2.2.2.1.ext OL0.2))
  have hin293 : ¬ ((15 : Int32) < 0 ∨ cl293.slots.size ≤ ((15 : Int32)).toNatClampNeg) := inb_of Sz293 ⟨by decide, by decide⟩
  have hat293 : cl293.slots[((15 : Int32)).toNatClampNeg]? = some (.int (1 : Int32)) := Has.at Hh293 hin293 rfl
  obtain ⟨T294, X294, e294, st294⟩ := getS2 X292 hx hZ hown (host := "") (Or.inl (hw _ (List.mem_of_getElem? (i := 67) rfl))) Via.refl e292 (EN.2.2.2.2.1.2.2.2.2.1.ext OL0.2) (g := (mkF m 64 #[.val (.ref (A 15)), .unset] [])) rfl (hb hby own_d_prog_32_method_2_code_64)
  obtain ⟨fs, hr, hrun, hended, hW, hsame⟩ := X294.leave (v := some (.ref (A 18))) (fun h => by rw [Bd.returns] at h; cases h)
  refine ⟨_, _, pre0 _ ?_, hrun, hended, _, _, rfl, ?_, ⟨_, rfl⟩, hW, hsame.mono (by decide) (by decide)⟩
  · show Steps p.tables e below (s₁.setTop (mkF m 0 #[.val (.ref (A 15)), .unset] [])) _
    refine st290 _ ?_
    show Steps p.tables e below (T290.setTop (mkF m 3 #[.val (.ref (A 15)), .unset] [(.ref (A 22))])) _
    refine XS.aloadN X290.here hx rfl (hb hby own_d_prog_32_method_2_code_3) rfl rfl ?_
    show Steps p.tables e below (T290.setTop (mkF m 4 #[.val (.ref (A 15)), .unset] [(.ref (A 15)), (.ref (A 22))])) _
    refine st292.trans ?_
    show Steps p.tables e below (T292.setTop (mkF m 7 #[.val (.ref (A 15)), .unset] [(.int (15 : Int32)), (.ref (A 22))])) _
    refine X292.iaload hx (j := (15 : Int32)) (v := (.int (1 : Int32))) (by rw [e292]; exact Ar293.1) (State.isArrayOf_alike hZ.alike Ar293.2.1) Ar293.2.2 hin293 hat293 (g := (mkF m 7 #[.val (.ref (A 15)), .unset] [(.int (15 : Int32)), (.ref (A 22))])) rfl rfl (hb hby own_d_prog_32_method_2_code_7) _ ?_
    show Steps p.tables e below (T292.setTop (mkF m 8 #[.val (.ref (A 15)), .unset] [(.int (1 : Int32))])) _
    refine XS.tswIn X292.here hx rfl (pc0 := 8) (pc' := 64) rfl (hb hby own_d_prog_32_method_2_code_8) rfl (by decide) (o := 56) (by decide) (by decide) (by decide) ?_
    show Steps p.tables e below (T292.setTop (mkF m 64 #[.val (.ref (A 15)), .unset] [])) _
    refine st294 _ ?_
    show Steps p.tables e below (T294.setTop (mkF m 67 #[.val (.ref (A 15)), .unset] [(.ref (A 18))])) _
    refine XS.goto X294.here hx rfl (pc0 := 67) (pc' := 83) rfl (hb hby own_d_prog_32_method_2_code_67) (by decide) (by decide) ?_
    show Steps p.tables e below (T294.setTop (mkF m 83 #[.val (.ref (A 15)), .unset] [(.ref (A 18))])) _
    refine XS.astoreN X294.here hx rfl (hb hby own_d_prog_32_method_2_code_83) rfl rfl (l' := #[.val (.ref (A 15)), .val (.ref (A 18))]) rfl ?_
    show Steps p.tables e below (T294.setTop (mkF m 84 #[.val (.ref (A 15)), .val (.ref (A 18))] [])) _
    refine XS.aloadN X294.here hx rfl (hb hby own_d_prog_32_method_2_code_84) rfl rfl ?_
    show Steps p.tables e below (T294.setTop (mkF m 85 #[.val (.ref (A 15)), .val (.ref (A 18))] [(.ref (A 18))])) _
    exact retOut X294 hx Bd.returns rfl (Or.inr (Or.inr (Or.inr (Or.inr ⟨rfl, rfl, rfl⟩)))) (hb hby own_d_prog_32_method_2_code_85) hr
  · show PQ (some (.ref (A 18))) h0 n0 _ T294.heap _
    rw [e294]
    exact ⟨rfl, N292, rfl⟩
theorem own_ef_rm38 (m : MethodId) (p1 : Int32) (A : Nat → Addr) (K : Nat → ClassId)  : entryFrame m #[(.ref (A 18))] 1 = mkF m 0 #[.val (.ref (A 18))] [] := by first | (simp [entryFrame, mkF, argsToLocals, Value.category, maxLocals]; done) | rfl
set_option maxRecDepth 65536 in
set_option maxHeartbeats 40000000 in
theorem rm38 (l : Launch) (Z : State) (a0 : Array Value) (hw : ∀ d ∈ tables_1, d.before a0 Z = true) (ws : List Jvm.Cond) (h0 : Heap) (n0 : Nat) (p1 : Int32) (A : Nat → Addr) (K : Nat → ClassId)  (EN : own_St Z A K) (OL0 : Old Z n0 h0) :
    MetFree l own_m1 (head1 (Jvm.Cond.code own_m1 jdk_37_method_2_code 1 (some .int) :: ws) ({ frames := 0, cells := 0, slots := 0, locals := 0 } : Room)) (fun a U => a = #[(.ref (A 18))] ∧ Z.Warmed39 U.vm ∧ U.heap = h0) (fun _ _ _ _ _ => True) (fun _ U o U' => ∃ v L, o = .returned v ∧ (PQ (some (.int (18 : Int32))) h0 n0) v U'.heap L ∧ FrameEnd U o U' L ({ frames := 0, cells := 0, slots := 0, locals := 0 } : Room).cells ({ frames := 0, cells := 0, slots := 0, locals := 0 } : Room).slots) := by
  refine MetFree.of_bodySF (plainFor_of_name own_pn0) hisR ?_
  intro p e s m args below meth c s₁ Bd hml0 hP hK
  obtain ⟨rfl, hZ, hh⟩ := hP
  have hx := Bd.exec
  have hby := Bd.bytes
  have hml : c.maxLocals = 1 := hml0
  have hown : s.vm.findClass "java/lang/Enum" = some m.cls := findClass_of_methodNamed Bd.named
  have hnm := (name_of_methodNamed Bd.named Bd.method).1
  have X0 : Stand p l e ({ frames := 0, cells := 0, slots := 0, locals := 0 } : Room) s m #[(.ref (A 18))] below meth c s₁ [] 0 0 := Stand.of_body Bd
  have e0 : s₁.heap = h0 := by rw [← hh, Bd.state]; rfl
  have N0 := Fr.nil n0
  have pre0 : ∀ t, Steps p.tables e below (s₁.setTop (mkF m 0 #[.val (.ref (A 18))] [])) t → Steps p.tables e below (s₁.setTop (entryFrame m #[(.ref (A 18))] 1)) t := fun t k => castTop (own_ef_rm38 m p1 A K ) k
  have KK0 : Keep h0 h0 [] := Keep.refl _ _
  obtain ⟨T298, X298, e298, st298⟩ := getF X0 hx hZ hown (host := "") (Or.inl (hw _ (List.mem_of_getElem? (i := 63) rfl))) Via.refl e0 (EN.2.2.2.2.2.2.2.1.2.2.2.2.1.ext OL0.2) (g := (mkF m 1 #[.val (.ref (A 18))] [(.ref (A 18))])) rfl rfl (hb hby own_d_jdk_37_method_2_code_1)
  obtain ⟨fs, hr, hrun, hended, hW, hsame⟩ := X298.leave (v := some (.int (18 : Int32))) (fun h => by rw [Bd.returns] at h; cases h)
  refine ⟨_, _, pre0 _ ?_, hrun, hended, _, _, rfl, ?_, ⟨_, rfl⟩, hW, hsame.mono (by decide) (by decide)⟩
  · show Steps p.tables e below (s₁.setTop (mkF m 0 #[.val (.ref (A 18))] [])) _
    refine XS.aloadN X0.here hx rfl (hb hby own_d_jdk_37_method_2_code_0) rfl rfl ?_
    show Steps p.tables e below (s₁.setTop (mkF m 1 #[.val (.ref (A 18))] [(.ref (A 18))])) _
    refine st298 _ ?_
    show Steps p.tables e below (T298.setTop (mkF m 4 #[.val (.ref (A 18))] [(.int (18 : Int32))])) _
    exact retI X298 hx Bd.returns (hb hby own_d_jdk_37_method_2_code_4) hr
  · show PQ (some (.int (18 : Int32))) h0 n0 _ T298.heap _
    rw [e298]
    exact ⟨rfl, N0, rfl⟩
theorem own_ef_rm37 (m : MethodId) (p1 : Int32) (A : Nat → Addr) (K : Nat → ClassId)  : entryFrame m #[(.ref (A 18))] 2 = mkF m 0 #[.val (.ref (A 18)), .unset] [] := by first | (simp [entryFrame, mkF, argsToLocals, Value.category, maxLocals]; done) | rfl
set_option maxRecDepth 65536 in
set_option maxHeartbeats 40000000 in
theorem rm37 (l : Launch) (Z : State) (a0 : Array Value) (hw : ∀ d ∈ tables_1, d.before a0 Z = true) (ws : List Jvm.Cond) (h0 : Heap) (n0 : Nat) (p1 : Int32) (A : Nat → Addr) (K : Nat → ClassId)  (EN : own_St Z A K) (OL0 : Old Z n0 h0) :
    MetFree l own_m0 (head1 (Jvm.Cond.code own_m0 prog_32_method_2_code 2 (some (.object "com/example/dongl/dongl/core/ErrorCode")) :: ws) ({ frames := 1, cells := 0, slots := 0, locals := 13 } : Room)) (fun a U => a = #[(.ref (A 18))] ∧ Z.Warmed39 U.vm ∧ U.heap = h0) (fun _ _ _ _ _ => True) (fun _ U o U' => ∃ v L, o = .returned v ∧ (PQ (some (.ref (A 18))) h0 n0) v U'.heap L ∧ FrameEnd U o U' L ({ frames := 1, cells := 0, slots := 0, locals := 13 } : Room).cells ({ frames := 1, cells := 0, slots := 0, locals := 13 } : Room).slots) := by
  refine MetFree.of_bodySF (plainFor_of_name own_pn1) hisR ?_
  intro p e s m args below meth c s₁ Bd hml0 hP hK
  obtain ⟨rfl, hZ, hh⟩ := hP
  have hx := Bd.exec
  have hby := Bd.bytes
  have hml : c.maxLocals = 2 := hml0
  have hown : s.vm.findClass "com/example/dongl/dongl/server/ClientRefusals" = some m.cls := findClass_of_methodNamed Bd.named
  have hnm := (name_of_methodNamed Bd.named Bd.method).1
  have X0 : Stand p l e ({ frames := 1, cells := 0, slots := 0, locals := 13 } : Room) s m #[(.ref (A 18))] below meth c s₁ [] 0 0 := Stand.of_body Bd
  have e0 : s₁.heap = h0 := by rw [← hh, Bd.state]; rfl
  have N0 := Fr.nil n0
  have pre0 : ∀ t, Steps p.tables e below (s₁.setTop (mkF m 0 #[.val (.ref (A 18)), .unset] [])) t → Steps p.tables e below (s₁.setTop (entryFrame m #[(.ref (A 18))] 2)) t := fun t k => castTop (own_ef_rm37 m p1 A K ) k
  have KK0 : Keep h0 h0 [] := Keep.refl _ _
  obtain ⟨T297, X297, e297, st297⟩ := getS2 X0 hx hZ hown (host := "") (Or.inl (hw _ (List.mem_of_getElem? (i := 53) rfl))) Via.refl e0 (EN.2.2.2.2.2.1.2.2.2.2.1.ext OL0.2) (g := (mkF m 0 #[.val (.ref (A 18)), .unset] [])) rfl (hb hby own_d_prog_32_method_2_code_0)
  obtain ⟨cq299, kq299, q299a, q299b, q299c⟩ := isOf hZ e297 (EN.2.2.2.2.1.2.2.2.2.2.1.ext OL0.2)
  obtain ⟨_, _, ⟨T299, L299, k299, n299⟩, -, X299, ⟨Lc299, hQ299, l299, y299, z299⟩, st299⟩ := X297.virtualBackUp hx (x := own_m2) (y := own_m1) (owner := "java/lang/Enum") hown (mvT hZ (hw _ (List.mem_of_getElem? (i := 56) rfl))) (mvT hZ (hw _ (List.mem_of_getElem? (i := 57) rfl))) (mvT hZ (hw _ (List.mem_of_getElem? (i := 58) rfl))) (by decide) (mvT hZ (hw _ (List.mem_of_getElem? (i := 60) rfl))) (mvT hZ (hw _ (List.mem_of_getElem? (i := 59) rfl))) (backOf (W := 1) (rm38 l Z a0 hw [] h0 n0 p1 A K EN OL0) hZ (hw _ (List.mem_of_getElem? (i := 62) rfl)) (hw _ (List.mem_of_getElem? (i := 61) rfl)) (by decide) (by decide)) q299a q299c (g := (mkF m 4 #[.val (.ref (A 18)), .unset] [(.ref (A 18)), (.ref (A 22))])) rfl (by rw [hml]; rfl) (Steps.refl _) (argsL := []) (rest := [(.ref (A 22))]) (lenOf own_pd0 rfl) rfl (by show 2 * 0 + _ ≤ _; exact Nat.le_of_eq rfl) (hb hby own_d_prog_32_method_2_code_4) (fun _ _ => ⟨rfl, e297, (by decide : 0 + 0 ≤ _), (by decide : 0 + 0 ≤ _)⟩)
  dsimp only [Pt.U, Pt.locs, Pt.cells, Pt.slots] at X299 l299 y299 z299 st299 hQ299
  replace X299 := own_sub X299 l299 y299 z299
  obtain ⟨rfl, N299q, e299⟩ := hQ299
  have N299 := Fr.app N0 N299q
  obtain ⟨cl300, Ar300, q300, Sz300, Nn300, Hh300, Gg300⟩ := (id (EN.2.2.2.2.2.1.2.2.2.2.2.1.ext OL0.2))
  have hin300 : ¬ ((18 : Int32) < 0 ∨ cl300.slots.size ≤ ((18 : Int32)).toNatClampNeg) := inb_of Sz300 ⟨by decide, by decide⟩
  have hat300 : cl300.slots[((18 : Int32)).toNatClampNeg]? = some (.int (0 : Int32)) := Has.at Hh300 hin300 rfl
  obtain ⟨fs, hr, hrun, hended, hW, hsame⟩ := X299.leave (v := some (.ref (A 18))) (fun h => by rw [Bd.returns] at h; cases h)
  refine ⟨_, _, pre0 _ ?_, hrun, hended, _, _, rfl, ?_, ⟨_, rfl⟩, hW, hsame.mono (by decide) (by decide)⟩
  · show Steps p.tables e below (s₁.setTop (mkF m 0 #[.val (.ref (A 18)), .unset] [])) _
    refine st297 _ ?_
    show Steps p.tables e below (T297.setTop (mkF m 3 #[.val (.ref (A 18)), .unset] [(.ref (A 22))])) _
    refine XS.aloadN X297.here hx rfl (hb hby own_d_prog_32_method_2_code_3) rfl rfl ?_
    show Steps p.tables e below (T297.setTop (mkF m 4 #[.val (.ref (A 18)), .unset] [(.ref (A 18)), (.ref (A 22))])) _
    refine st299.trans ?_
    show Steps p.tables e below (T299.setTop (mkF m 7 #[.val (.ref (A 18)), .unset] [(.int (18 : Int32)), (.ref (A 22))])) _
    refine X299.iaload hx (j := (18 : Int32)) (v := (.int (0 : Int32))) (by rw [e299]; exact Ar300.1) (State.isArrayOf_alike hZ.alike Ar300.2.1) Ar300.2.2 hin300 hat300 (g := (mkF m 7 #[.val (.ref (A 18)), .unset] [(.int (18 : Int32)), (.ref (A 22))])) rfl rfl (hb hby own_d_prog_32_method_2_code_7) _ ?_
    show Steps p.tables e below (T299.setTop (mkF m 8 #[.val (.ref (A 18)), .unset] [(.int (0 : Int32))])) _
    refine XS.tswOut X299.here hx rfl (pc0 := 8) (pc' := 82) rfl (hb hby own_d_prog_32_method_2_code_8) rfl (by decide) (by decide) (by decide) ?_
    show Steps p.tables e below (T299.setTop (mkF m 82 #[.val (.ref (A 18)), .unset] [])) _
    refine XS.aloadN X299.here hx rfl (hb hby own_d_prog_32_method_2_code_82) rfl rfl ?_
    show Steps p.tables e below (T299.setTop (mkF m 83 #[.val (.ref (A 18)), .unset] [(.ref (A 18))])) _
    refine XS.astoreN X299.here hx rfl (hb hby own_d_prog_32_method_2_code_83) rfl rfl (l' := #[.val (.ref (A 18)), .val (.ref (A 18))]) rfl ?_
    show Steps p.tables e below (T299.setTop (mkF m 84 #[.val (.ref (A 18)), .val (.ref (A 18))] [])) _
    refine XS.aloadN X299.here hx rfl (hb hby own_d_prog_32_method_2_code_84) rfl rfl ?_
    show Steps p.tables e below (T299.setTop (mkF m 85 #[.val (.ref (A 18)), .val (.ref (A 18))] [(.ref (A 18))])) _
    exact retOut X299 hx Bd.returns rfl (Or.inr (Or.inr (Or.inr (Or.inr ⟨rfl, rfl, rfl⟩)))) (hb hby own_d_prog_32_method_2_code_85) hr
  · show PQ (some (.ref (A 18))) h0 n0 _ T299.heap _
    rw [e299]
    exact ⟨rfl, N299, rfl⟩
theorem own_ef_rm40 (m : MethodId) (p1 : Int32) (A : Nat → Addr) (K : Nat → ClassId)  : entryFrame m #[(.ref (A 16))] 1 = mkF m 0 #[.val (.ref (A 16))] [] := by first | (simp [entryFrame, mkF, argsToLocals, Value.category, maxLocals]; done) | rfl
set_option maxRecDepth 65536 in
set_option maxHeartbeats 40000000 in
theorem rm40 (l : Launch) (Z : State) (a0 : Array Value) (hw : ∀ d ∈ tables_1, d.before a0 Z = true) (ws : List Jvm.Cond) (h0 : Heap) (n0 : Nat) (p1 : Int32) (A : Nat → Addr) (K : Nat → ClassId)  (EN : own_St Z A K) (OL0 : Old Z n0 h0) :
    MetFree l own_m1 (head1 (Jvm.Cond.code own_m1 jdk_37_method_2_code 1 (some .int) :: ws) ({ frames := 0, cells := 0, slots := 0, locals := 0 } : Room)) (fun a U => a = #[(.ref (A 16))] ∧ Z.Warmed39 U.vm ∧ U.heap = h0) (fun _ _ _ _ _ => True) (fun _ U o U' => ∃ v L, o = .returned v ∧ (PQ (some (.int (16 : Int32))) h0 n0) v U'.heap L ∧ FrameEnd U o U' L ({ frames := 0, cells := 0, slots := 0, locals := 0 } : Room).cells ({ frames := 0, cells := 0, slots := 0, locals := 0 } : Room).slots) := by
  refine MetFree.of_bodySF (plainFor_of_name own_pn0) hisR ?_
  intro p e s m args below meth c s₁ Bd hml0 hP hK
  obtain ⟨rfl, hZ, hh⟩ := hP
  have hx := Bd.exec
  have hby := Bd.bytes
  have hml : c.maxLocals = 1 := hml0
  have hown : s.vm.findClass "java/lang/Enum" = some m.cls := findClass_of_methodNamed Bd.named
  have hnm := (name_of_methodNamed Bd.named Bd.method).1
  have X0 : Stand p l e ({ frames := 0, cells := 0, slots := 0, locals := 0 } : Room) s m #[(.ref (A 16))] below meth c s₁ [] 0 0 := Stand.of_body Bd
  have e0 : s₁.heap = h0 := by rw [← hh, Bd.state]; rfl
  have N0 := Fr.nil n0
  have pre0 : ∀ t, Steps p.tables e below (s₁.setTop (mkF m 0 #[.val (.ref (A 16))] [])) t → Steps p.tables e below (s₁.setTop (entryFrame m #[(.ref (A 16))] 1)) t := fun t k => castTop (own_ef_rm40 m p1 A K ) k
  have KK0 : Keep h0 h0 [] := Keep.refl _ _
  obtain ⟨T305, X305, e305, st305⟩ := getF X0 hx hZ hown (host := "") (Or.inl (hw _ (List.mem_of_getElem? (i := 63) rfl))) Via.refl e0 (EN.2.2.2.2.2.2.2.1.2.2.1.ext OL0.2) (g := (mkF m 1 #[.val (.ref (A 16))] [(.ref (A 16))])) rfl rfl (hb hby own_d_jdk_37_method_2_code_1)
  obtain ⟨fs, hr, hrun, hended, hW, hsame⟩ := X305.leave (v := some (.int (16 : Int32))) (fun h => by rw [Bd.returns] at h; cases h)
  refine ⟨_, _, pre0 _ ?_, hrun, hended, _, _, rfl, ?_, ⟨_, rfl⟩, hW, hsame.mono (by decide) (by decide)⟩
  · show Steps p.tables e below (s₁.setTop (mkF m 0 #[.val (.ref (A 16))] [])) _
    refine XS.aloadN X0.here hx rfl (hb hby own_d_jdk_37_method_2_code_0) rfl rfl ?_
    show Steps p.tables e below (s₁.setTop (mkF m 1 #[.val (.ref (A 16))] [(.ref (A 16))])) _
    refine st305 _ ?_
    show Steps p.tables e below (T305.setTop (mkF m 4 #[.val (.ref (A 16))] [(.int (16 : Int32))])) _
    exact retI X305 hx Bd.returns (hb hby own_d_jdk_37_method_2_code_4) hr
  · show PQ (some (.int (16 : Int32))) h0 n0 _ T305.heap _
    rw [e305]
    exact ⟨rfl, N0, rfl⟩
theorem own_ef_rm39 (m : MethodId) (p1 : Int32) (A : Nat → Addr) (K : Nat → ClassId)  : entryFrame m #[(.ref (A 16))] 2 = mkF m 0 #[.val (.ref (A 16)), .unset] [] := by first | (simp [entryFrame, mkF, argsToLocals, Value.category, maxLocals]; done) | rfl
set_option maxRecDepth 65536 in
set_option maxHeartbeats 40000000 in
theorem rm39 (l : Launch) (Z : State) (a0 : Array Value) (hw : ∀ d ∈ tables_1, d.before a0 Z = true) (ws : List Jvm.Cond) (h0 : Heap) (n0 : Nat) (p1 : Int32) (A : Nat → Addr) (K : Nat → ClassId)  (EN : own_St Z A K) (OL0 : Old Z n0 h0) :
    MetFree l own_m0 (head1 (Jvm.Cond.code own_m0 prog_32_method_2_code 2 (some (.object "com/example/dongl/dongl/core/ErrorCode")) :: ws) ({ frames := 1, cells := 0, slots := 0, locals := 13 } : Room)) (fun a U => a = #[(.ref (A 16))] ∧ Z.Warmed39 U.vm ∧ U.heap = h0) (fun _ _ _ _ _ => True) (fun _ U o U' => ∃ v L, o = .returned v ∧ (PQ (some (.ref (A 19))) h0 n0) v U'.heap L ∧ FrameEnd U o U' L ({ frames := 1, cells := 0, slots := 0, locals := 13 } : Room).cells ({ frames := 1, cells := 0, slots := 0, locals := 13 } : Room).slots) := by
  refine MetFree.of_bodySF (plainFor_of_name own_pn1) hisR ?_
  intro p e s m args below meth c s₁ Bd hml0 hP hK
  obtain ⟨rfl, hZ, hh⟩ := hP
  have hx := Bd.exec
  have hby := Bd.bytes
  have hml : c.maxLocals = 2 := hml0
  have hown : s.vm.findClass "com/example/dongl/dongl/server/ClientRefusals" = some m.cls := findClass_of_methodNamed Bd.named
  have hnm := (name_of_methodNamed Bd.named Bd.method).1
  have X0 : Stand p l e ({ frames := 1, cells := 0, slots := 0, locals := 13 } : Room) s m #[(.ref (A 16))] below meth c s₁ [] 0 0 := Stand.of_body Bd
  have e0 : s₁.heap = h0 := by rw [← hh, Bd.state]; rfl
  have N0 := Fr.nil n0
  have pre0 : ∀ t, Steps p.tables e below (s₁.setTop (mkF m 0 #[.val (.ref (A 16)), .unset] [])) t → Steps p.tables e below (s₁.setTop (entryFrame m #[(.ref (A 16))] 2)) t := fun t k => castTop (own_ef_rm39 m p1 A K ) k
  have KK0 : Keep h0 h0 [] := Keep.refl _ _
  obtain ⟨T304, X304, e304, st304⟩ := getS2 X0 hx hZ hown (host := "") (Or.inl (hw _ (List.mem_of_getElem? (i := 53) rfl))) Via.refl e0 (EN.2.2.2.2.2.1.2.2.2.2.1.ext OL0.2) (g := (mkF m 0 #[.val (.ref (A 16)), .unset] [])) rfl (hb hby own_d_prog_32_method_2_code_0)
  obtain ⟨cq306, kq306, q306a, q306b, q306c⟩ := isOf hZ e304 (EN.2.2.2.2.1.2.1.ext OL0.2)
  obtain ⟨_, _, ⟨T306, L306, k306, n306⟩, -, X306, ⟨Lc306, hQ306, l306, y306, z306⟩, st306⟩ := X304.virtualBackUp hx (x := own_m2) (y := own_m1) (owner := "java/lang/Enum") hown (mvT hZ (hw _ (List.mem_of_getElem? (i := 56) rfl))) (mvT hZ (hw _ (List.mem_of_getElem? (i := 57) rfl))) (mvT hZ (hw _ (List.mem_of_getElem? (i := 58) rfl))) (by decide) (mvT hZ (hw _ (List.mem_of_getElem? (i := 60) rfl))) (mvT hZ (hw _ (List.mem_of_getElem? (i := 59) rfl))) (backOf (W := 1) (rm40 l Z a0 hw [] h0 n0 p1 A K EN OL0) hZ (hw _ (List.mem_of_getElem? (i := 62) rfl)) (hw _ (List.mem_of_getElem? (i := 61) rfl)) (by decide) (by decide)) q306a q306c (g := (mkF m 4 #[.val (.ref (A 16)), .unset] [(.ref (A 16)), (.ref (A 22))])) rfl (by rw [hml]; rfl) (Steps.refl _) (argsL := []) (rest := [(.ref (A 22))]) (lenOf own_pd0 rfl) rfl (by show 2 * 0 + _ ≤ _; exact Nat.le_of_eq rfl) (hb hby own_d_prog_32_method_2_code_4) (fun _ _ => ⟨rfl, e304, (by decide : 0 + 0 ≤ _), (by decide : 0 + 0 ≤ _)⟩)
  dsimp only [Pt.U, Pt.locs, Pt.cells, Pt.slots] at X306 l306 y306 z306 st306 hQ306
  replace X306 := own_sub X306 l306 y306 z306
  obtain ⟨rfl, N306q, e306⟩ := hQ306
  have N306 := Fr.app N0 N306q
  obtain ⟨cl307, Ar307, q307, Sz307, Nn307, Hh307, Gg307⟩ := (id (EN.2.2.2.2.2.1.2.2.2.2.2.1.ext OL0.2))
  have hin307 : ¬ ((16 : Int32) < 0 ∨ cl307.slots.size ≤ ((16 : Int32)).toNatClampNeg) := inb_of Sz307 ⟨by decide, by decide⟩
  have hat307 : cl307.slots[((16 : Int32)).toNatClampNeg]? = some (.int (10 : Int32)) := Has.at Hh307 hin307 rfl
  obtain ⟨T308, X308, e308, st308⟩ := getS2 X306 hx hZ hown (host := "") (Or.inl (hw _ (List.mem_of_getElem? (i := 66) rfl))) Via.refl e306 (EN.2.2.2.2.1.2.2.2.2.2.2.1.ext OL0.2) (g := (mkF m 76 #[.val (.ref (A 16)), .unset] [])) rfl (hb hby own_d_prog_32_method_2_code_76)
  obtain ⟨fs, hr, hrun, hended, hW, hsame⟩ := X308.leave (v := some (.ref (A 19))) (fun h => by rw [Bd.returns] at h; cases h)
  refine ⟨_, _, pre0 _ ?_, hrun, hended, _, _, rfl, ?_, ⟨_, rfl⟩, hW, hsame.mono (by decide) (by decide)⟩
  · show Steps p.tables e below (s₁.setTop (mkF m 0 #[.val (.ref (A 16)), .unset] [])) _
    refine st304 _ ?_
    show Steps p.tables e below (T304.setTop (mkF m 3 #[.val (.ref (A 16)), .unset] [(.ref (A 22))])) _
    refine XS.aloadN X304.here hx rfl (hb hby own_d_prog_32_method_2_code_3) rfl rfl ?_
    show Steps p.tables e below (T304.setTop (mkF m 4 #[.val (.ref (A 16)), .unset] [(.ref (A 16)), (.ref (A 22))])) _
    refine st306.trans ?_
    show Steps p.tables e below (T306.setTop (mkF m 7 #[.val (.ref (A 16)), .unset] [(.int (16 : Int32)), (.ref (A 22))])) _
    refine X306.iaload hx (j := (16 : Int32)) (v := (.int (10 : Int32))) (by rw [e306]; exact Ar307.1) (State.isArrayOf_alike hZ.alike Ar307.2.1) Ar307.2.2 hin307 hat307 (g := (mkF m 7 #[.val (.ref (A 16)), .unset] [(.int (16 : Int32)), (.ref (A 22))])) rfl rfl (hb hby own_d_prog_32_method_2_code_7) _ ?_
    show Steps p.tables e below (T306.setTop (mkF m 8 #[.val (.ref (A 16)), .unset] [(.int (10 : Int32))])) _
    refine XS.tswIn X306.here hx rfl (pc0 := 8) (pc' := 76) rfl (hb hby own_d_prog_32_method_2_code_8) rfl (by decide) (o := 68) (by decide) (by decide) (by decide) ?_
    show Steps p.tables e below (T306.setTop (mkF m 76 #[.val (.ref (A 16)), .unset] [])) _
    refine st308 _ ?_
    show Steps p.tables e below (T308.setTop (mkF m 79 #[.val (.ref (A 16)), .unset] [(.ref (A 19))])) _
    refine XS.goto X308.here hx rfl (pc0 := 79) (pc' := 83) rfl (hb hby own_d_prog_32_method_2_code_79) (by decide) (by decide) ?_
    show Steps p.tables e below (T308.setTop (mkF m 83 #[.val (.ref (A 16)), .unset] [(.ref (A 19))])) _
    refine XS.astoreN X308.here hx rfl (hb hby own_d_prog_32_method_2_code_83) rfl rfl (l' := #[.val (.ref (A 16)), .val (.ref (A 19))]) rfl ?_
    show Steps p.tables e below (T308.setTop (mkF m 84 #[.val (.ref (A 16)), .val (.ref (A 19))] [])) _
    refine XS.aloadN X308.here hx rfl (hb hby own_d_prog_32_method_2_code_84) rfl rfl ?_
    show Steps p.tables e below (T308.setTop (mkF m 85 #[.val (.ref (A 16)), .val (.ref (A 19))] [(.ref (A 19))])) _
    exact retOut X308 hx Bd.returns rfl (Or.inr (Or.inr (Or.inr (Or.inr ⟨rfl, rfl, rfl⟩)))) (hb hby own_d_prog_32_method_2_code_85) hr
  · show PQ (some (.ref (A 19))) h0 n0 _ T308.heap _
    rw [e308]
    exact ⟨rfl, N306, rfl⟩
theorem own_ef_rm42 (m : MethodId) (p1 : Int32) (A : Nat → Addr) (K : Nat → ClassId)  : entryFrame m #[(.ref (A 17))] 1 = mkF m 0 #[.val (.ref (A 17))] [] := by first | (simp [entryFrame, mkF, argsToLocals, Value.category, maxLocals]; done) | rfl
set_option maxRecDepth 65536 in
set_option maxHeartbeats 40000000 in
theorem rm42 (l : Launch) (Z : State) (a0 : Array Value) (hw : ∀ d ∈ tables_1, d.before a0 Z = true) (ws : List Jvm.Cond) (h0 : Heap) (n0 : Nat) (p1 : Int32) (A : Nat → Addr) (K : Nat → ClassId)  (EN : own_St Z A K) (OL0 : Old Z n0 h0) :
    MetFree l own_m1 (head1 (Jvm.Cond.code own_m1 jdk_37_method_2_code 1 (some .int) :: ws) ({ frames := 0, cells := 0, slots := 0, locals := 0 } : Room)) (fun a U => a = #[(.ref (A 17))] ∧ Z.Warmed39 U.vm ∧ U.heap = h0) (fun _ _ _ _ _ => True) (fun _ U o U' => ∃ v L, o = .returned v ∧ (PQ (some (.int (17 : Int32))) h0 n0) v U'.heap L ∧ FrameEnd U o U' L ({ frames := 0, cells := 0, slots := 0, locals := 0 } : Room).cells ({ frames := 0, cells := 0, slots := 0, locals := 0 } : Room).slots) := by
  refine MetFree.of_bodySF (plainFor_of_name own_pn0) hisR ?_
  intro p e s m args below meth c s₁ Bd hml0 hP hK
  obtain ⟨rfl, hZ, hh⟩ := hP
  have hx := Bd.exec
  have hby := Bd.bytes
  have hml : c.maxLocals = 1 := hml0
  have hown : s.vm.findClass "java/lang/Enum" = some m.cls := findClass_of_methodNamed Bd.named
  have hnm := (name_of_methodNamed Bd.named Bd.method).1
  have X0 : Stand p l e ({ frames := 0, cells := 0, slots := 0, locals := 0 } : Room) s m #[(.ref (A 17))] below meth c s₁ [] 0 0 := Stand.of_body Bd
  have e0 : s₁.heap = h0 := by rw [← hh, Bd.state]; rfl
  have N0 := Fr.nil n0
  have pre0 : ∀ t, Steps p.tables e below (s₁.setTop (mkF m 0 #[.val (.ref (A 17))] [])) t → Steps p.tables e below (s₁.setTop (entryFrame m #[(.ref (A 17))] 1)) t := fun t k => castTop (own_ef_rm42 m p1 A K ) k
  have KK0 : Keep h0 h0 [] := Keep.refl _ _
  obtain ⟨T315, X315, e315, st315⟩ := getF X0 hx hZ hown (host := "") (Or.inl (hw _ (List.mem_of_getElem? (i := 63) rfl))) Via.refl e0 (EN.2.2.2.2.2.2.2.2.1.2.2.2.1.ext OL0.2) (g := (mkF m 1 #[.val (.ref (A 17))] [(.ref (A 17))])) rfl rfl (hb hby own_d_jdk_37_method_2_code_1)
  obtain ⟨fs, hr, hrun, hended, hW, hsame⟩ := X315.leave (v := some (.int (17 : Int32))) (fun h => by rw [Bd.returns] at h; cases h)
  refine ⟨_, _, pre0 _ ?_, hrun, hended, _, _, rfl, ?_, ⟨_, rfl⟩, hW, hsame.mono (by decide) (by decide)⟩
  · show Steps p.tables e below (s₁.setTop (mkF m 0 #[.val (.ref (A 17))] [])) _
    refine XS.aloadN X0.here hx rfl (hb hby own_d_jdk_37_method_2_code_0) rfl rfl ?_
    show Steps p.tables e below (s₁.setTop (mkF m 1 #[.val (.ref (A 17))] [(.ref (A 17))])) _
    refine st315 _ ?_
    show Steps p.tables e below (T315.setTop (mkF m 4 #[.val (.ref (A 17))] [(.int (17 : Int32))])) _
    exact retI X315 hx Bd.returns (hb hby own_d_jdk_37_method_2_code_4) hr
  · show PQ (some (.int (17 : Int32))) h0 n0 _ T315.heap _
    rw [e315]
    exact ⟨rfl, N0, rfl⟩
theorem own_ef_rm41 (m : MethodId) (p1 : Int32) (A : Nat → Addr) (K : Nat → ClassId)  : entryFrame m #[(.ref (A 17))] 2 = mkF m 0 #[.val (.ref (A 17)), .unset] [] := by first | (simp [entryFrame, mkF, argsToLocals, Value.category, maxLocals]; done) | rfl
set_option maxRecDepth 65536 in
set_option maxHeartbeats 40000000 in
theorem rm41 (l : Launch) (Z : State) (a0 : Array Value) (hw : ∀ d ∈ tables_1, d.before a0 Z = true) (ws : List Jvm.Cond) (h0 : Heap) (n0 : Nat) (p1 : Int32) (A : Nat → Addr) (K : Nat → ClassId)  (EN : own_St Z A K) (OL0 : Old Z n0 h0) :
    MetFree l own_m0 (head1 (Jvm.Cond.code own_m0 prog_32_method_2_code 2 (some (.object "com/example/dongl/dongl/core/ErrorCode")) :: ws) ({ frames := 1, cells := 0, slots := 0, locals := 13 } : Room)) (fun a U => a = #[(.ref (A 17))] ∧ Z.Warmed39 U.vm ∧ U.heap = h0) (fun _ _ _ _ _ => True) (fun _ U o U' => ∃ v L, o = .returned v ∧ (PQ (some (.ref (A 17))) h0 n0) v U'.heap L ∧ FrameEnd U o U' L ({ frames := 1, cells := 0, slots := 0, locals := 13 } : Room).cells ({ frames := 1, cells := 0, slots := 0, locals := 13 } : Room).slots) := by
  refine MetFree.of_bodySF (plainFor_of_name own_pn1) hisR ?_
  intro p e s m args below meth c s₁ Bd hml0 hP hK
  obtain ⟨rfl, hZ, hh⟩ := hP
  have hx := Bd.exec
  have hby := Bd.bytes
  have hml : c.maxLocals = 2 := hml0
  have hown : s.vm.findClass "com/example/dongl/dongl/server/ClientRefusals" = some m.cls := findClass_of_methodNamed Bd.named
  have hnm := (name_of_methodNamed Bd.named Bd.method).1
  have X0 : Stand p l e ({ frames := 1, cells := 0, slots := 0, locals := 13 } : Room) s m #[(.ref (A 17))] below meth c s₁ [] 0 0 := Stand.of_body Bd
  have e0 : s₁.heap = h0 := by rw [← hh, Bd.state]; rfl
  have N0 := Fr.nil n0
  have pre0 : ∀ t, Steps p.tables e below (s₁.setTop (mkF m 0 #[.val (.ref (A 17)), .unset] [])) t → Steps p.tables e below (s₁.setTop (entryFrame m #[(.ref (A 17))] 2)) t := fun t k => castTop (own_ef_rm41 m p1 A K ) k
  have KK0 : Keep h0 h0 [] := Keep.refl _ _
  obtain ⟨T314, X314, e314, st314⟩ := getS2 X0 hx hZ hown (host := "") (Or.inl (hw _ (List.mem_of_getElem? (i := 53) rfl))) Via.refl e0 (EN.2.2.2.2.2.1.2.2.2.2.1.ext OL0.2) (g := (mkF m 0 #[.val (.ref (A 17)), .unset] [])) rfl (hb hby own_d_prog_32_method_2_code_0)
  obtain ⟨cq316, kq316, q316a, q316b, q316c⟩ := isOf hZ e314 (EN.2.2.2.2.1.2.2.2.1.ext OL0.2)
  obtain ⟨_, _, ⟨T316, L316, k316, n316⟩, -, X316, ⟨Lc316, hQ316, l316, y316, z316⟩, st316⟩ := X314.virtualBackUp hx (x := own_m2) (y := own_m1) (owner := "java/lang/Enum") hown (mvT hZ (hw _ (List.mem_of_getElem? (i := 56) rfl))) (mvT hZ (hw _ (List.mem_of_getElem? (i := 57) rfl))) (mvT hZ (hw _ (List.mem_of_getElem? (i := 58) rfl))) (by decide) (mvT hZ (hw _ (List.mem_of_getElem? (i := 60) rfl))) (mvT hZ (hw _ (List.mem_of_getElem? (i := 59) rfl))) (backOf (W := 1) (rm42 l Z a0 hw [] h0 n0 p1 A K EN OL0) hZ (hw _ (List.mem_of_getElem? (i := 62) rfl)) (hw _ (List.mem_of_getElem? (i := 61) rfl)) (by decide) (by decide)) q316a q316c (g := (mkF m 4 #[.val (.ref (A 17)), .unset] [(.ref (A 17)), (.ref (A 22))])) rfl (by rw [hml]; rfl) (Steps.refl _) (argsL := []) (rest := [(.ref (A 22))]) (lenOf own_pd0 rfl) rfl (by show 2 * 0 + _ ≤ _; exact Nat.le_of_eq rfl) (hb hby own_d_prog_32_method_2_code_4) (fun _ _ => ⟨rfl, e314, (by decide : 0 + 0 ≤ _), (by decide : 0 + 0 ≤ _)⟩)
  dsimp only [Pt.U, Pt.locs, Pt.cells, Pt.slots] at X316 l316 y316 z316 st316 hQ316
  replace X316 := own_sub X316 l316 y316 z316
  obtain ⟨rfl, N316q, e316⟩ := hQ316
  have N316 := Fr.app N0 N316q
  obtain ⟨cl317, Ar317, q317, Sz317, Nn317, Hh317, Gg317⟩ := (id (EN.2.2.2.2.2.1.2.2.2.2.2.1.ext OL0.2))
  have hin317 : ¬ ((17 : Int32) < 0 ∨ cl317.slots.size ≤ ((17 : Int32)).toNatClampNeg) := inb_of Sz317 ⟨by decide, by decide⟩
  have hat317 : cl317.slots[((17 : Int32)).toNatClampNeg]? = some (.int (0 : Int32)) := Has.at Hh317 hin317 rfl
  obtain ⟨fs, hr, hrun, hended, hW, hsame⟩ := X316.leave (v := some (.ref (A 17))) (fun h => by rw [Bd.returns] at h; cases h)
  refine ⟨_, _, pre0 _ ?_, hrun, hended, _, _, rfl, ?_, ⟨_, rfl⟩, hW, hsame.mono (by decide) (by decide)⟩
  · show Steps p.tables e below (s₁.setTop (mkF m 0 #[.val (.ref (A 17)), .unset] [])) _
    refine st314 _ ?_
    show Steps p.tables e below (T314.setTop (mkF m 3 #[.val (.ref (A 17)), .unset] [(.ref (A 22))])) _
    refine XS.aloadN X314.here hx rfl (hb hby own_d_prog_32_method_2_code_3) rfl rfl ?_
    show Steps p.tables e below (T314.setTop (mkF m 4 #[.val (.ref (A 17)), .unset] [(.ref (A 17)), (.ref (A 22))])) _
    refine st316.trans ?_
    show Steps p.tables e below (T316.setTop (mkF m 7 #[.val (.ref (A 17)), .unset] [(.int (17 : Int32)), (.ref (A 22))])) _
    refine X316.iaload hx (j := (17 : Int32)) (v := (.int (0 : Int32))) (by rw [e316]; exact Ar317.1) (State.isArrayOf_alike hZ.alike Ar317.2.1) Ar317.2.2 hin317 hat317 (g := (mkF m 7 #[.val (.ref (A 17)), .unset] [(.int (17 : Int32)), (.ref (A 22))])) rfl rfl (hb hby own_d_prog_32_method_2_code_7) _ ?_
    show Steps p.tables e below (T316.setTop (mkF m 8 #[.val (.ref (A 17)), .unset] [(.int (0 : Int32))])) _
    refine XS.tswOut X316.here hx rfl (pc0 := 8) (pc' := 82) rfl (hb hby own_d_prog_32_method_2_code_8) rfl (by decide) (by decide) (by decide) ?_
    show Steps p.tables e below (T316.setTop (mkF m 82 #[.val (.ref (A 17)), .unset] [])) _
    refine XS.aloadN X316.here hx rfl (hb hby own_d_prog_32_method_2_code_82) rfl rfl ?_
    show Steps p.tables e below (T316.setTop (mkF m 83 #[.val (.ref (A 17)), .unset] [(.ref (A 17))])) _
    refine XS.astoreN X316.here hx rfl (hb hby own_d_prog_32_method_2_code_83) rfl rfl (l' := #[.val (.ref (A 17)), .val (.ref (A 17))]) rfl ?_
    show Steps p.tables e below (T316.setTop (mkF m 84 #[.val (.ref (A 17)), .val (.ref (A 17))] [])) _
    refine XS.aloadN X316.here hx rfl (hb hby own_d_prog_32_method_2_code_84) rfl rfl ?_
    show Steps p.tables e below (T316.setTop (mkF m 85 #[.val (.ref (A 17)), .val (.ref (A 17))] [(.ref (A 17))])) _
    exact retOut X316 hx Bd.returns rfl (Or.inr (Or.inr (Or.inr (Or.inr ⟨rfl, rfl, rfl⟩)))) (hb hby own_d_prog_32_method_2_code_85) hr
  · show PQ (some (.ref (A 17))) h0 n0 _ T316.heap _
    rw [e316]
    exact ⟨rfl, N316, rfl⟩
theorem own_ef_rm44 (m : MethodId) (p1 : Int32) (A : Nat → Addr) (K : Nat → ClassId)  : entryFrame m #[(.ref (A 21))] 1 = mkF m 0 #[.val (.ref (A 21))] [] := by first | (simp [entryFrame, mkF, argsToLocals, Value.category, maxLocals]; done) | rfl
set_option maxRecDepth 65536 in
set_option maxHeartbeats 40000000 in
theorem rm44 (l : Launch) (Z : State) (a0 : Array Value) (hw : ∀ d ∈ tables_1, d.before a0 Z = true) (ws : List Jvm.Cond) (h0 : Heap) (n0 : Nat) (p1 : Int32) (A : Nat → Addr) (K : Nat → ClassId)  (EN : own_St Z A K) (OL0 : Old Z n0 h0) :
    MetFree l own_m1 (head1 (Jvm.Cond.code own_m1 jdk_37_method_2_code 1 (some .int) :: ws) ({ frames := 0, cells := 0, slots := 0, locals := 0 } : Room)) (fun a U => a = #[(.ref (A 21))] ∧ Z.Warmed39 U.vm ∧ U.heap = h0) (fun _ _ _ _ _ => True) (fun _ U o U' => ∃ v L, o = .returned v ∧ (PQ (some (.int (21 : Int32))) h0 n0) v U'.heap L ∧ FrameEnd U o U' L ({ frames := 0, cells := 0, slots := 0, locals := 0 } : Room).cells ({ frames := 0, cells := 0, slots := 0, locals := 0 } : Room).slots) := by
  refine MetFree.of_bodySF (plainFor_of_name own_pn0) hisR ?_
  intro p e s m args below meth c s₁ Bd hml0 hP hK
  obtain ⟨rfl, hZ, hh⟩ := hP
  have hx := Bd.exec
  have hby := Bd.bytes
  have hml : c.maxLocals = 1 := hml0
  have hown : s.vm.findClass "java/lang/Enum" = some m.cls := findClass_of_methodNamed Bd.named
  have hnm := (name_of_methodNamed Bd.named Bd.method).1
  have X0 : Stand p l e ({ frames := 0, cells := 0, slots := 0, locals := 0 } : Room) s m #[(.ref (A 21))] below meth c s₁ [] 0 0 := Stand.of_body Bd
  have e0 : s₁.heap = h0 := by rw [← hh, Bd.state]; rfl
  have N0 := Fr.nil n0
  have pre0 : ∀ t, Steps p.tables e below (s₁.setTop (mkF m 0 #[.val (.ref (A 21))] [])) t → Steps p.tables e below (s₁.setTop (entryFrame m #[(.ref (A 21))] 1)) t := fun t k => castTop (own_ef_rm44 m p1 A K ) k
  have KK0 : Keep h0 h0 [] := Keep.refl _ _
  obtain ⟨T339, X339, e339, st339⟩ := getF X0 hx hZ hown (host := "") (Or.inl (hw _ (List.mem_of_getElem? (i := 63) rfl))) Via.refl e0 (EN.2.2.2.2.2.2.2.1.2.2.2.2.2.2.2.1.ext OL0.2) (g := (mkF m 1 #[.val (.ref (A 21))] [(.ref (A 21))])) rfl rfl (hb hby own_d_jdk_37_method_2_code_1)
  obtain ⟨fs, hr, hrun, hended, hW, hsame⟩ := X339.leave (v := some (.int (21 : Int32))) (fun h => by rw [Bd.returns] at h; cases h)
  refine ⟨_, _, pre0 _ ?_, hrun, hended, _, _, rfl, ?_, ⟨_, rfl⟩, hW, hsame.mono (by decide) (by decide)⟩
  · show Steps p.tables e below (s₁.setTop (mkF m 0 #[.val (.ref (A 21))] [])) _
    refine XS.aloadN X0.here hx rfl (hb hby own_d_jdk_37_method_2_code_0) rfl rfl ?_
    show Steps p.tables e below (s₁.setTop (mkF m 1 #[.val (.ref (A 21))] [(.ref (A 21))])) _
    refine st339 _ ?_
    show Steps p.tables e below (T339.setTop (mkF m 4 #[.val (.ref (A 21))] [(.int (21 : Int32))])) _
    exact retI X339 hx Bd.returns (hb hby own_d_jdk_37_method_2_code_4) hr
  · show PQ (some (.int (21 : Int32))) h0 n0 _ T339.heap _
    rw [e339]
    exact ⟨rfl, N0, rfl⟩
theorem own_ef_rm43 (m : MethodId) (p1 : Int32) (A : Nat → Addr) (K : Nat → ClassId)  : entryFrame m #[(.ref (A 21))] 2 = mkF m 0 #[.val (.ref (A 21)), .unset] [] := by first | (simp [entryFrame, mkF, argsToLocals, Value.category, maxLocals]; done) | rfl
set_option maxRecDepth 65536 in
set_option maxHeartbeats 40000000 in
theorem rm43 (l : Launch) (Z : State) (a0 : Array Value) (hw : ∀ d ∈ tables_1, d.before a0 Z = true) (ws : List Jvm.Cond) (h0 : Heap) (n0 : Nat) (p1 : Int32) (A : Nat → Addr) (K : Nat → ClassId)  (EN : own_St Z A K) (OL0 : Old Z n0 h0) :
    MetFree l own_m0 (head1 (Jvm.Cond.code own_m0 prog_32_method_2_code 2 (some (.object "com/example/dongl/dongl/core/ErrorCode")) :: ws) ({ frames := 1, cells := 0, slots := 0, locals := 13 } : Room)) (fun a U => a = #[(.ref (A 21))] ∧ Z.Warmed39 U.vm ∧ U.heap = h0) (fun _ _ _ _ _ => True) (fun _ U o U' => ∃ v L, o = .returned v ∧ (PQ (some (.ref (A 21))) h0 n0) v U'.heap L ∧ FrameEnd U o U' L ({ frames := 1, cells := 0, slots := 0, locals := 13 } : Room).cells ({ frames := 1, cells := 0, slots := 0, locals := 13 } : Room).slots) := by
  refine MetFree.of_bodySF (plainFor_of_name own_pn1) hisR ?_
  intro p e s m args below meth c s₁ Bd hml0 hP hK
  obtain ⟨rfl, hZ, hh⟩ := hP
  have hx := Bd.exec
  have hby := Bd.bytes
  have hml : c.maxLocals = 2 := hml0
  have hown : s.vm.findClass "com/example/dongl/dongl/server/ClientRefusals" = some m.cls := findClass_of_methodNamed Bd.named
  have hnm := (name_of_methodNamed Bd.named Bd.method).1
  have X0 : Stand p l e ({ frames := 1, cells := 0, slots := 0, locals := 13 } : Room) s m #[(.ref (A 21))] below meth c s₁ [] 0 0 := Stand.of_body Bd
  have e0 : s₁.heap = h0 := by rw [← hh, Bd.state]; rfl
  have N0 := Fr.nil n0
  have pre0 : ∀ t, Steps p.tables e below (s₁.setTop (mkF m 0 #[.val (.ref (A 21)), .unset] [])) t → Steps p.tables e below (s₁.setTop (entryFrame m #[(.ref (A 21))] 2)) t := fun t k => castTop (own_ef_rm43 m p1 A K ) k
  have KK0 : Keep h0 h0 [] := Keep.refl _ _
  obtain ⟨T338, X338, e338, st338⟩ := getS2 X0 hx hZ hown (host := "") (Or.inl (hw _ (List.mem_of_getElem? (i := 53) rfl))) Via.refl e0 (EN.2.2.2.2.2.1.2.2.2.2.1.ext OL0.2) (g := (mkF m 0 #[.val (.ref (A 21)), .unset] [])) rfl (hb hby own_d_prog_32_method_2_code_0)
  obtain ⟨cq340, kq340, q340a, q340b, q340c⟩ := isOf hZ e338 (EN.2.2.2.2.2.1.2.2.2.1.ext OL0.2)
  obtain ⟨_, _, ⟨T340, L340, k340, n340⟩, -, X340, ⟨Lc340, hQ340, l340, y340, z340⟩, st340⟩ := X338.virtualBackUp hx (x := own_m2) (y := own_m1) (owner := "java/lang/Enum") hown (mvT hZ (hw _ (List.mem_of_getElem? (i := 56) rfl))) (mvT hZ (hw _ (List.mem_of_getElem? (i := 57) rfl))) (mvT hZ (hw _ (List.mem_of_getElem? (i := 58) rfl))) (by decide) (mvT hZ (hw _ (List.mem_of_getElem? (i := 60) rfl))) (mvT hZ (hw _ (List.mem_of_getElem? (i := 59) rfl))) (backOf (W := 1) (rm44 l Z a0 hw [] h0 n0 p1 A K EN OL0) hZ (hw _ (List.mem_of_getElem? (i := 62) rfl)) (hw _ (List.mem_of_getElem? (i := 61) rfl)) (by decide) (by decide)) q340a q340c (g := (mkF m 4 #[.val (.ref (A 21)), .unset] [(.ref (A 21)), (.ref (A 22))])) rfl (by rw [hml]; rfl) (Steps.refl _) (argsL := []) (rest := [(.ref (A 22))]) (lenOf own_pd0 rfl) rfl (by show 2 * 0 + _ ≤ _; exact Nat.le_of_eq rfl) (hb hby own_d_prog_32_method_2_code_4) (fun _ _ => ⟨rfl, e338, (by decide : 0 + 0 ≤ _), (by decide : 0 + 0 ≤ _)⟩)
  dsimp only [Pt.U, Pt.locs, Pt.cells, Pt.slots] at X340 l340 y340 z340 st340 hQ340
  replace X340 := own_sub X340 l340 y340 z340
  obtain ⟨rfl, N340q, e340⟩ := hQ340
  have N340 := Fr.app N0 N340q
  obtain ⟨cl341, Ar341, q341, Sz341, Nn341, Hh341, Gg341⟩ := (id (EN.2.2.2.2.2.1.2.2.2.2.2.1.ext OL0.2))
  have hin341 : ¬ ((21 : Int32) < 0 ∨ cl341.slots.size ≤ ((21 : Int32)).toNatClampNeg) := inb_of Sz341 ⟨by decide, by decide⟩
  have hat341 : cl341.slots[((21 : Int32)).toNatClampNeg]? = some (.int (0 : Int32)) := Has.at Hh341 hin341 rfl
  obtain ⟨fs, hr, hrun, hended, hW, hsame⟩ := X340.leave (v := some (.ref (A 21))) (fun h => by rw [Bd.returns] at h; cases h)
  refine ⟨_, _, pre0 _ ?_, hrun, hended, _, _, rfl, ?_, ⟨_, rfl⟩, hW, hsame.mono (by decide) (by decide)⟩
  · show Steps p.tables e below (s₁.setTop (mkF m 0 #[.val (.ref (A 21)), .unset] [])) _
    refine st338 _ ?_
    show Steps p.tables e below (T338.setTop (mkF m 3 #[.val (.ref (A 21)), .unset] [(.ref (A 22))])) _
    refine XS.aloadN X338.here hx rfl (hb hby own_d_prog_32_method_2_code_3) rfl rfl ?_
    show Steps p.tables e below (T338.setTop (mkF m 4 #[.val (.ref (A 21)), .unset] [(.ref (A 21)), (.ref (A 22))])) _
    refine st340.trans ?_
    show Steps p.tables e below (T340.setTop (mkF m 7 #[.val (.ref (A 21)), .unset] [(.int (21 : Int32)), (.ref (A 22))])) _
    refine X340.iaload hx (j := (21 : Int32)) (v := (.int (0 : Int32))) (by rw [e340]; exact Ar341.1) (State.isArrayOf_alike hZ.alike Ar341.2.1) Ar341.2.2 hin341 hat341 (g := (mkF m 7 #[.val (.ref (A 21)), .unset] [(.int (21 : Int32)), (.ref (A 22))])) rfl rfl (hb hby own_d_prog_32_method_2_code_7) _ ?_
    show Steps p.tables e below (T340.setTop (mkF m 8 #[.val (.ref (A 21)), .unset] [(.int (0 : Int32))])) _
    refine XS.tswOut X340.here hx rfl (pc0 := 8) (pc' := 82) rfl (hb hby own_d_prog_32_method_2_code_8) rfl (by decide) (by decide) (by decide) ?_
    show Steps p.tables e below (T340.setTop (mkF m 82 #[.val (.ref (A 21)), .unset] [])) _
    refine XS.aloadN X340.here hx rfl (hb hby own_d_prog_32_method_2_code_82) rfl rfl ?_
    show Steps p.tables e below (T340.setTop (mkF m 83 #[.val (.ref (A 21)), .unset] [(.ref (A 21))])) _
    refine XS.astoreN X340.here hx rfl (hb hby own_d_prog_32_method_2_code_83) rfl rfl (l' := #[.val (.ref (A 21)), .val (.ref (A 21))]) rfl ?_
    show Steps p.tables e below (T340.setTop (mkF m 84 #[.val (.ref (A 21)), .val (.ref (A 21))] [])) _
    refine XS.aloadN X340.here hx rfl (hb hby own_d_prog_32_method_2_code_84) rfl rfl ?_
    show Steps p.tables e below (T340.setTop (mkF m 85 #[.val (.ref (A 21)), .val (.ref (A 21))] [(.ref (A 21))])) _
    exact retOut X340 hx Bd.returns rfl (Or.inr (Or.inr (Or.inr (Or.inr ⟨rfl, rfl, rfl⟩)))) (hb hby own_d_prog_32_method_2_code_85) hr
  · show PQ (some (.ref (A 21))) h0 n0 _ T340.heap _
    rw [e340]
    exact ⟨rfl, N340, rfl⟩
theorem own_pn2 : plainName "com/example/dongl/dongl/server/ClientRefusalsCodePinLaw" = true := by first | (simp [plainName, overriddenIn]; done) | decide +kernel
theorem own_ef_rm0 (m : MethodId) (p1 : Int32) (A : Nat → Addr) (K : Nat → ClassId) : entryFrame m #[(.int p1)] maxLocals = mkF m 0 #[.val (.int p1), .unset, .unset, .unset, .unset, .unset] [] := by first | (simp [entryFrame, mkF, argsToLocals, Value.category, maxLocals]; done) | rfl
set_option maxRecDepth 65536 in
set_option maxHeartbeats 40000000 in
theorem rm0 (l : Launch) (Z : State) (a0 : Array Value) (hw : ∀ d ∈ tables_1, d.before a0 Z = true) (ws : List Jvm.Cond) (h0 : Heap) (n0 : Nat) (p1 : Int32) (A : Nat → Addr) (K : Nat → ClassId) (EN : own_St Z A K) (OL0 : Old Z n0 h0) :
    MetFree l x (head1 (Jvm.Cond.code x code maxLocals ret :: ws) room_1) (fun a U => a = #[(.int p1)] ∧ Z.Warmed39 U.vm ∧ U.heap = h0) (fun _ _ _ _ _ => True) (fun _ U o U' => ∃ v L, o = .returned v ∧ (LQ n0) v U'.heap L ∧ FrameEnd U o U' L room_1.cells room_1.slots) := by
  refine MetFree.of_bodySF (plainFor_of_name own_pn2) hisR ?_
  intro p e s m args below meth c s₁ Bd hml0 hP hK
  obtain ⟨rfl, hZ, hh⟩ := hP
  have hx := Bd.exec
  have hby := Bd.bytes
  have hml : c.maxLocals = 6 := hml0
  have hown : s.vm.findClass "com/example/dongl/dongl/server/ClientRefusalsCodePinLaw" = some m.cls := findClass_of_methodNamed Bd.named
  have hnm := (name_of_methodNamed Bd.named Bd.method).1
  have X0 : Stand p l e room_1 s m #[(.int p1)] below meth c s₁ [] 0 0 := Stand.of_body Bd
  have e0 : s₁.heap = h0 := by rw [← hh, Bd.state]; rfl
  have N0 := Fr.nil n0
  have pre0 : ∀ t, Steps p.tables e below (s₁.setTop (mkF m 0 #[.val (.int p1), .unset, .unset, .unset, .unset, .unset] [])) t → Steps p.tables e below (s₁.setTop (entryFrame m #[(.int p1)] maxLocals)) t := fun t k => castTop (own_ef_rm0 m p1 A K) k
  have KK0 : Keep h0 h0 [] := Keep.refl _ _
  obtain ⟨T1, h1, k1, X1, e1, E1, A1, O1, st1⟩ := newR X0 hx hZ hown (hw _ (List.mem_of_getElem? (i := 0) rfl)) (hw _ (List.mem_of_getElem? (i := 1) rfl)) e0 (g := (mkF m 2 #[.val (.int p1), .unset, .unset, .unset, .unset, .unset] [(.int (22 : Int32))])) rfl (hb hby at_2) rfl (by decide) (cap := 22) (by decide) (by decide) (by decide) (by decide)
  obtain ⟨b1, g1⟩ : ∃ z, z = h0.size := ⟨_, rfl⟩
  rw [← g1] at A1 st1
  have gn_b1 : n0 ≤ b1 := Nat.le_trans (OL0.1 ▸ OL0.2.1) (Nat.le_of_eq g1.symm)
  have sz_b1 : h0.size ≤ b1 := Nat.le_trans KK0.1 (Nat.le_of_eq g1.symm)
  have OL1 : Old Z n0 h1 := OL0.ext E1
  have KK1 : Keep h0 h1 [] := KK0.ext E1
  have V1 : Arv Z h1 b1 k1 (.object "com/example/dongl/dongl/core/ErrorCode") (22 : Int32) [] .null := Arv.new A1 (by decide)
  obtain ⟨T2, X2, e2, st2⟩ := getS2 X1 hx hZ hown (host := "") (Or.inl (hw _ (List.mem_of_getElem? (i := 2) rfl))) Via.refl e1 (EN.1.1.ext OL1.2) (g := (mkF m 7 #[.val (.int p1), .unset, .unset, .unset, .unset, .unset] [(.int (0 : Int32)), (.ref b1), (.ref b1)])) rfl (hb hby at_7)
  obtain ⟨cl3, Ar3, q3, Sz3, Nn3, Hh3, Gg3⟩ := (id (Arv.pad V1 (pad_rep [] .null 1)))
  have hin3 : ¬ ((0 : Int32) < 0 ∨ cl3.slots.size ≤ ((0 : Int32)).toNatClampNeg) := inb_of Sz3 ⟨by decide, by decide⟩
  obtain ⟨T4, h4, X4, e4, W4, st4⟩ := stR X2 hx hZ e2 Ar3 (j := (0 : Int32)) hin3 rfl (Sto.ofV Ar3 q3 O1 (Ins.self (EN.1.2.1.ext OL1.2))) (g := (mkF m 10 #[.val (.int p1), .unset, .unset, .unset, .unset, .unset] [(.ref (A 0)), (.int (0 : Int32)), (.ref b1), (.ref b1)])) rfl rfl (hb hby at_10)
  have NF4 := Fr.snoc X4 N0 gn_b1
  have OL4 : Old Z n0 h4 := OL1.wr W4 gn_b1
  have KK4 : Keep h0 h4 [] := KK1.wr W4 (Or.inr sz_b1)
  have V4 : Arv Z h4 b1 k1 (.object "com/example/dongl/dongl/core/ErrorCode") (22 : Int32) [(.ref (A 0))] .null := Arv.set Ar3 q3 Sz3 Nn3 Hh3 Gg3 rfl W4 0 (by decide) (by decide : 0 < 1)
  obtain ⟨T5, X5, e5, st5⟩ := getS2 X4 hx hZ hown (host := "") (Or.inl (hw _ (List.mem_of_getElem? (i := 6) rfl))) Via.refl e4 (EN.1.2.2.1.ext OL4.2) (g := (mkF m 13 #[.val (.int p1), .unset, .unset, .unset, .unset, .unset] [(.int (1 : Int32)), (.ref b1), (.ref b1)])) rfl (hb hby at_13)
  obtain ⟨cl6, Ar6, q6, Sz6, Nn6, Hh6, Gg6⟩ := (id (Arv.pad V4 (pad_rep [(.ref (A 0))] .null 1)))
  have hin6 : ¬ ((1 : Int32) < 0 ∨ cl6.slots.size ≤ ((1 : Int32)).toNatClampNeg) := inb_of Sz6 ⟨by decide, by decide⟩
  obtain ⟨T7, h7, X7, e7, W7, st7⟩ := stR X5 hx hZ e5 Ar6 (j := (1 : Int32)) hin6 rfl (Sto.ofV Ar6 q6 O1 (Ins.self (EN.1.2.2.2.1.ext OL4.2))) (g := (mkF m 16 #[.val (.int p1), .unset, .unset, .unset, .unset, .unset] [(.ref (A 1)), (.int (1 : Int32)), (.ref b1), (.ref b1)])) rfl rfl (hb hby at_16)
  have NF7 := Fr.snoc X7 NF4 gn_b1
  have OL7 : Old Z n0 h7 := OL4.wr W7 gn_b1
  have KK7 : Keep h0 h7 [] := KK4.wr W7 (Or.inr sz_b1)
  have V7 : Arv Z h7 b1 k1 (.object "com/example/dongl/dongl/core/ErrorCode") (22 : Int32) [(.ref (A 0)), (.ref (A 1))] .null := Arv.set Ar6 q6 Sz6 Nn6 Hh6 Gg6 rfl W7 1 (by decide) (by decide : 1 < 2)
  obtain ⟨T8, X8, e8, st8⟩ := getS2 X7 hx hZ hown (host := "") (Or.inl (hw _ (List.mem_of_getElem? (i := 8) rfl))) Via.refl e7 (EN.1.2.2.2.2.1.ext OL7.2) (g := (mkF m 19 #[.val (.int p1), .unset, .unset, .unset, .unset, .unset] [(.int (2 : Int32)), (.ref b1), (.ref b1)])) rfl (hb hby at_19)
  obtain ⟨cl9, Ar9, q9, Sz9, Nn9, Hh9, Gg9⟩ := (id (Arv.pad V7 (pad_rep [(.ref (A 0)), (.ref (A 1))] .null 1)))
  have hin9 : ¬ ((2 : Int32) < 0 ∨ cl9.slots.size ≤ ((2 : Int32)).toNatClampNeg) := inb_of Sz9 ⟨by decide, by decide⟩
  obtain ⟨T10, h10, X10, e10, W10, st10⟩ := stR X8 hx hZ e8 Ar9 (j := (2 : Int32)) hin9 rfl (Sto.ofV Ar9 q9 O1 (Ins.self (EN.1.2.2.2.2.2.1.ext OL7.2))) (g := (mkF m 22 #[.val (.int p1), .unset, .unset, .unset, .unset, .unset] [(.ref (A 2)), (.int (2 : Int32)), (.ref b1), (.ref b1)])) rfl rfl (hb hby at_22)
  have NF10 := Fr.snoc X10 NF7 gn_b1
  have OL10 : Old Z n0 h10 := OL7.wr W10 gn_b1
  have KK10 : Keep h0 h10 [] := KK7.wr W10 (Or.inr sz_b1)
  have V10 : Arv Z h10 b1 k1 (.object "com/example/dongl/dongl/core/ErrorCode") (22 : Int32) [(.ref (A 0)), (.ref (A 1)), (.ref (A 2))] .null := Arv.set Ar9 q9 Sz9 Nn9 Hh9 Gg9 rfl W10 2 (by decide) (by decide : 2 < 3)
  obtain ⟨T11, X11, e11, st11⟩ := getS2 X10 hx hZ hown (host := "") (Or.inl (hw _ (List.mem_of_getElem? (i := 10) rfl))) Via.refl e10 (EN.1.2.2.2.2.2.2.1.ext OL10.2) (g := (mkF m 25 #[.val (.int p1), .unset, .unset, .unset, .unset, .unset] [(.int (3 : Int32)), (.ref b1), (.ref b1)])) rfl (hb hby at_25)
  obtain ⟨cl12, Ar12, q12, Sz12, Nn12, Hh12, Gg12⟩ := (id (Arv.pad V10 (pad_rep [(.ref (A 0)), (.ref (A 1)), (.ref (A 2))] .null 1)))
  have hin12 : ¬ ((3 : Int32) < 0 ∨ cl12.slots.size ≤ ((3 : Int32)).toNatClampNeg) := inb_of Sz12 ⟨by decide, by decide⟩
  obtain ⟨T13, h13, X13, e13, W13, st13⟩ := stR X11 hx hZ e11 Ar12 (j := (3 : Int32)) hin12 rfl (Sto.ofV Ar12 q12 O1 (Ins.self (EN.1.2.2.2.2.2.2.2.1.ext OL10.2))) (g := (mkF m 28 #[.val (.int p1), .unset, .unset, .unset, .unset, .unset] [(.ref (A 3)), (.int (3 : Int32)), (.ref b1), (.ref b1)])) rfl rfl (hb hby at_28)
  have NF13 := Fr.snoc X13 NF10 gn_b1
  have OL13 : Old Z n0 h13 := OL10.wr W13 gn_b1
  have KK13 : Keep h0 h13 [] := KK10.wr W13 (Or.inr sz_b1)
  have V13 : Arv Z h13 b1 k1 (.object "com/example/dongl/dongl/core/ErrorCode") (22 : Int32) [(.ref (A 0)), (.ref (A 1)), (.ref (A 2)), (.ref (A 3))] .null := Arv.set Ar12 q12 Sz12 Nn12 Hh12 Gg12 rfl W13 3 (by decide) (by decide : 3 < 4)
  obtain ⟨T14, X14, e14, st14⟩ := getS2 X13 hx hZ hown (host := "") (Or.inl (hw _ (List.mem_of_getElem? (i := 12) rfl))) Via.refl e13 (EN.2.1.1.ext OL13.2) (g := (mkF m 31 #[.val (.int p1), .unset, .unset, .unset, .unset, .unset] [(.int (4 : Int32)), (.ref b1), (.ref b1)])) rfl (hb hby at_31)
  obtain ⟨cl15, Ar15, q15, Sz15, Nn15, Hh15, Gg15⟩ := (id (Arv.pad V13 (pad_rep [(.ref (A 0)), (.ref (A 1)), (.ref (A 2)), (.ref (A 3))] .null 1)))
  have hin15 : ¬ ((4 : Int32) < 0 ∨ cl15.slots.size ≤ ((4 : Int32)).toNatClampNeg) := inb_of Sz15 ⟨by decide, by decide⟩
  obtain ⟨T16, h16, X16, e16, W16, st16⟩ := stR X14 hx hZ e14 Ar15 (j := (4 : Int32)) hin15 rfl (Sto.ofV Ar15 q15 O1 (Ins.self (EN.2.1.2.1.ext OL13.2))) (g := (mkF m 34 #[.val (.int p1), .unset, .unset, .unset, .unset, .unset] [(.ref (A 4)), (.int (4 : Int32)), (.ref b1), (.ref b1)])) rfl rfl (hb hby at_34)
  have NF16 := Fr.snoc X16 NF13 gn_b1
  have OL16 : Old Z n0 h16 := OL13.wr W16 gn_b1
  have KK16 : Keep h0 h16 [] := KK13.wr W16 (Or.inr sz_b1)
  have V16 : Arv Z h16 b1 k1 (.object "com/example/dongl/dongl/core/ErrorCode") (22 : Int32) [(.ref (A 0)), (.ref (A 1)), (.ref (A 2)), (.ref (A 3)), (.ref (A 4))] .null := Arv.set Ar15 q15 Sz15 Nn15 Hh15 Gg15 rfl W16 4 (by decide) (by decide : 4 < 5)
  obtain ⟨T17, X17, e17, st17⟩ := getS2 X16 hx hZ hown (host := "") (Or.inl (hw _ (List.mem_of_getElem? (i := 14) rfl))) Via.refl e16 (EN.2.1.2.2.1.ext OL16.2) (g := (mkF m 37 #[.val (.int p1), .unset, .unset, .unset, .unset, .unset] [(.int (5 : Int32)), (.ref b1), (.ref b1)])) rfl (hb hby at_37)
  obtain ⟨cl18, Ar18, q18, Sz18, Nn18, Hh18, Gg18⟩ := (id (Arv.pad V16 (pad_rep [(.ref (A 0)), (.ref (A 1)), (.ref (A 2)), (.ref (A 3)), (.ref (A 4))] .null 1)))
  have hin18 : ¬ ((5 : Int32) < 0 ∨ cl18.slots.size ≤ ((5 : Int32)).toNatClampNeg) := inb_of Sz18 ⟨by decide, by decide⟩
  obtain ⟨T19, h19, X19, e19, W19, st19⟩ := stR X17 hx hZ e17 Ar18 (j := (5 : Int32)) hin18 rfl (Sto.ofV Ar18 q18 O1 (Ins.self (EN.2.1.2.2.2.1.ext OL16.2))) (g := (mkF m 40 #[.val (.int p1), .unset, .unset, .unset, .unset, .unset] [(.ref (A 5)), (.int (5 : Int32)), (.ref b1), (.ref b1)])) rfl rfl (hb hby at_40)
  have NF19 := Fr.snoc X19 NF16 gn_b1
  have OL19 : Old Z n0 h19 := OL16.wr W19 gn_b1
  have KK19 : Keep h0 h19 [] := KK16.wr W19 (Or.inr sz_b1)
  have V19 : Arv Z h19 b1 k1 (.object "com/example/dongl/dongl/core/ErrorCode") (22 : Int32) [(.ref (A 0)), (.ref (A 1)), (.ref (A 2)), (.ref (A 3)), (.ref (A 4)), (.ref (A 5))] .null := Arv.set Ar18 q18 Sz18 Nn18 Hh18 Gg18 rfl W19 5 (by decide) (by decide : 5 < 6)
  obtain ⟨T20, X20, e20, st20⟩ := getS2 X19 hx hZ hown (host := "") (Or.inl (hw _ (List.mem_of_getElem? (i := 16) rfl))) Via.refl e19 (EN.2.1.2.2.2.2.1.ext OL19.2) (g := (mkF m 44 #[.val (.int p1), .unset, .unset, .unset, .unset, .unset] [(.int (6 : Int32)), (.ref b1), (.ref b1)])) rfl (hb hby at_44)
  obtain ⟨cl21, Ar21, q21, Sz21, Nn21, Hh21, Gg21⟩ := (id (Arv.pad V19 (pad_rep [(.ref (A 0)), (.ref (A 1)), (.ref (A 2)), (.ref (A 3)), (.ref (A 4)), (.ref (A 5))] .null 1)))
  have hin21 : ¬ ((6 : Int32) < 0 ∨ cl21.slots.size ≤ ((6 : Int32)).toNatClampNeg) := inb_of Sz21 ⟨by decide, by decide⟩
  obtain ⟨T22, h22, X22, e22, W22, st22⟩ := stR X20 hx hZ e20 Ar21 (j := (6 : Int32)) hin21 rfl (Sto.ofV Ar21 q21 O1 (Ins.self (EN.2.1.2.2.2.2.2.1.ext OL19.2))) (g := (mkF m 47 #[.val (.int p1), .unset, .unset, .unset, .unset, .unset] [(.ref (A 6)), (.int (6 : Int32)), (.ref b1), (.ref b1)])) rfl rfl (hb hby at_47)
  have NF22 := Fr.snoc X22 NF19 gn_b1
  have OL22 : Old Z n0 h22 := OL19.wr W22 gn_b1
  have KK22 : Keep h0 h22 [] := KK19.wr W22 (Or.inr sz_b1)
  have V22 : Arv Z h22 b1 k1 (.object "com/example/dongl/dongl/core/ErrorCode") (22 : Int32) [(.ref (A 0)), (.ref (A 1)), (.ref (A 2)), (.ref (A 3)), (.ref (A 4)), (.ref (A 5)), (.ref (A 6))] .null := Arv.set Ar21 q21 Sz21 Nn21 Hh21 Gg21 rfl W22 6 (by decide) (by decide : 6 < 7)
  obtain ⟨T23, X23, e23, st23⟩ := getS2 X22 hx hZ hown (host := "") (Or.inl (hw _ (List.mem_of_getElem? (i := 18) rfl))) Via.refl e22 (EN.2.1.2.2.2.2.2.2.1.ext OL22.2) (g := (mkF m 51 #[.val (.int p1), .unset, .unset, .unset, .unset, .unset] [(.int (7 : Int32)), (.ref b1), (.ref b1)])) rfl (hb hby at_51)
  obtain ⟨cl24, Ar24, q24, Sz24, Nn24, Hh24, Gg24⟩ := (id (Arv.pad V22 (pad_rep [(.ref (A 0)), (.ref (A 1)), (.ref (A 2)), (.ref (A 3)), (.ref (A 4)), (.ref (A 5)), (.ref (A 6))] .null 1)))
  have hin24 : ¬ ((7 : Int32) < 0 ∨ cl24.slots.size ≤ ((7 : Int32)).toNatClampNeg) := inb_of Sz24 ⟨by decide, by decide⟩
  obtain ⟨T25, h25, X25, e25, W25, st25⟩ := stR X23 hx hZ e23 Ar24 (j := (7 : Int32)) hin24 rfl (Sto.ofV Ar24 q24 O1 (Ins.self (EN.2.1.2.2.2.2.2.2.2.1.ext OL22.2))) (g := (mkF m 54 #[.val (.int p1), .unset, .unset, .unset, .unset, .unset] [(.ref (A 7)), (.int (7 : Int32)), (.ref b1), (.ref b1)])) rfl rfl (hb hby at_54)
  have NF25 := Fr.snoc X25 NF22 gn_b1
  have OL25 : Old Z n0 h25 := OL22.wr W25 gn_b1
  have KK25 : Keep h0 h25 [] := KK22.wr W25 (Or.inr sz_b1)
  have V25 : Arv Z h25 b1 k1 (.object "com/example/dongl/dongl/core/ErrorCode") (22 : Int32) [(.ref (A 0)), (.ref (A 1)), (.ref (A 2)), (.ref (A 3)), (.ref (A 4)), (.ref (A 5)), (.ref (A 6)), (.ref (A 7))] .null := Arv.set Ar24 q24 Sz24 Nn24 Hh24 Gg24 rfl W25 7 (by decide) (by decide : 7 < 8)
  obtain ⟨T26, X26, e26, st26⟩ := getS2 X25 hx hZ hown (host := "") (Or.inl (hw _ (List.mem_of_getElem? (i := 20) rfl))) Via.refl e25 (EN.2.2.1.1.ext OL25.2) (g := (mkF m 58 #[.val (.int p1), .unset, .unset, .unset, .unset, .unset] [(.int (8 : Int32)), (.ref b1), (.ref b1)])) rfl (hb hby at_58)
  obtain ⟨cl27, Ar27, q27, Sz27, Nn27, Hh27, Gg27⟩ := (id (Arv.pad V25 (pad_rep [(.ref (A 0)), (.ref (A 1)), (.ref (A 2)), (.ref (A 3)), (.ref (A 4)), (.ref (A 5)), (.ref (A 6)), (.ref (A 7))] .null 1)))
  have hin27 : ¬ ((8 : Int32) < 0 ∨ cl27.slots.size ≤ ((8 : Int32)).toNatClampNeg) := inb_of Sz27 ⟨by decide, by decide⟩
  obtain ⟨T28, h28, X28, e28, W28, st28⟩ := stR X26 hx hZ e26 Ar27 (j := (8 : Int32)) hin27 rfl (Sto.ofV Ar27 q27 O1 (Ins.self (EN.2.2.1.2.1.ext OL25.2))) (g := (mkF m 61 #[.val (.int p1), .unset, .unset, .unset, .unset, .unset] [(.ref (A 8)), (.int (8 : Int32)), (.ref b1), (.ref b1)])) rfl rfl (hb hby at_61)
  have NF28 := Fr.snoc X28 NF25 gn_b1
  have OL28 : Old Z n0 h28 := OL25.wr W28 gn_b1
  have KK28 : Keep h0 h28 [] := KK25.wr W28 (Or.inr sz_b1)
  have V28 : Arv Z h28 b1 k1 (.object "com/example/dongl/dongl/core/ErrorCode") (22 : Int32) [(.ref (A 0)), (.ref (A 1)), (.ref (A 2)), (.ref (A 3)), (.ref (A 4)), (.ref (A 5)), (.ref (A 6)), (.ref (A 7)), (.ref (A 8))] .null := Arv.set Ar27 q27 Sz27 Nn27 Hh27 Gg27 rfl W28 8 (by decide) (by decide : 8 < 9)
  obtain ⟨T29, X29, e29, st29⟩ := getS2 X28 hx hZ hown (host := "") (Or.inl (hw _ (List.mem_of_getElem? (i := 22) rfl))) Via.refl e28 (EN.2.2.1.2.2.1.ext OL28.2) (g := (mkF m 65 #[.val (.int p1), .unset, .unset, .unset, .unset, .unset] [(.int (9 : Int32)), (.ref b1), (.ref b1)])) rfl (hb hby at_65)
  obtain ⟨cl30, Ar30, q30, Sz30, Nn30, Hh30, Gg30⟩ := (id (Arv.pad V28 (pad_rep [(.ref (A 0)), (.ref (A 1)), (.ref (A 2)), (.ref (A 3)), (.ref (A 4)), (.ref (A 5)), (.ref (A 6)), (.ref (A 7)), (.ref (A 8))] .null 1)))
  have hin30 : ¬ ((9 : Int32) < 0 ∨ cl30.slots.size ≤ ((9 : Int32)).toNatClampNeg) := inb_of Sz30 ⟨by decide, by decide⟩
  obtain ⟨T31, h31, X31, e31, W31, st31⟩ := stR X29 hx hZ e29 Ar30 (j := (9 : Int32)) hin30 rfl (Sto.ofV Ar30 q30 O1 (Ins.self (EN.2.2.1.2.2.2.1.ext OL28.2))) (g := (mkF m 68 #[.val (.int p1), .unset, .unset, .unset, .unset, .unset] [(.ref (A 9)), (.int (9 : Int32)), (.ref b1), (.ref b1)])) rfl rfl (hb hby at_68)
  have NF31 := Fr.snoc X31 NF28 gn_b1
  have OL31 : Old Z n0 h31 := OL28.wr W31 gn_b1
  have KK31 : Keep h0 h31 [] := KK28.wr W31 (Or.inr sz_b1)
  have V31 : Arv Z h31 b1 k1 (.object "com/example/dongl/dongl/core/ErrorCode") (22 : Int32) [(.ref (A 0)), (.ref (A 1)), (.ref (A 2)), (.ref (A 3)), (.ref (A 4)), (.ref (A 5)), (.ref (A 6)), (.ref (A 7)), (.ref (A 8)), (.ref (A 9))] .null := Arv.set Ar30 q30 Sz30 Nn30 Hh30 Gg30 rfl W31 9 (by decide) (by decide : 9 < 10)
  obtain ⟨T32, X32, e32, st32⟩ := getS2 X31 hx hZ hown (host := "") (Or.inl (hw _ (List.mem_of_getElem? (i := 24) rfl))) Via.refl e31 (EN.2.2.1.2.2.2.2.1.ext OL31.2) (g := (mkF m 72 #[.val (.int p1), .unset, .unset, .unset, .unset, .unset] [(.int (10 : Int32)), (.ref b1), (.ref b1)])) rfl (hb hby at_72)
  obtain ⟨cl33, Ar33, q33, Sz33, Nn33, Hh33, Gg33⟩ := (id (Arv.pad V31 (pad_rep [(.ref (A 0)), (.ref (A 1)), (.ref (A 2)), (.ref (A 3)), (.ref (A 4)), (.ref (A 5)), (.ref (A 6)), (.ref (A 7)), (.ref (A 8)), (.ref (A 9))] .null 1)))
  have hin33 : ¬ ((10 : Int32) < 0 ∨ cl33.slots.size ≤ ((10 : Int32)).toNatClampNeg) := inb_of Sz33 ⟨by decide, by decide⟩
  obtain ⟨T34, h34, X34, e34, W34, st34⟩ := stR X32 hx hZ e32 Ar33 (j := (10 : Int32)) hin33 rfl (Sto.ofV Ar33 q33 O1 (Ins.self (EN.2.2.1.2.2.2.2.2.1.ext OL31.2))) (g := (mkF m 75 #[.val (.int p1), .unset, .unset, .unset, .unset, .unset] [(.ref (A 10)), (.int (10 : Int32)), (.ref b1), (.ref b1)])) rfl rfl (hb hby at_75)
  have NF34 := Fr.snoc X34 NF31 gn_b1
  have OL34 : Old Z n0 h34 := OL31.wr W34 gn_b1
  have KK34 : Keep h0 h34 [] := KK31.wr W34 (Or.inr sz_b1)
  have V34 : Arv Z h34 b1 k1 (.object "com/example/dongl/dongl/core/ErrorCode") (22 : Int32) [(.ref (A 0)), (.ref (A 1)), (.ref (A 2)), (.ref (A 3)), (.ref (A 4)), (.ref (A 5)), (.ref (A 6)), (.ref (A 7)), (.ref (A 8)), (.ref (A 9)), (.ref (A 10))] .null := Arv.set Ar33 q33 Sz33 Nn33 Hh33 Gg33 rfl W34 10 (by decide) (by decide : 10 < 11)
  obtain ⟨T35, X35, e35, st35⟩ := getS2 X34 hx hZ hown (host := "") (Or.inl (hw _ (List.mem_of_getElem? (i := 26) rfl))) Via.refl e34 (EN.2.2.1.2.2.2.2.2.2.1.ext OL34.2) (g := (mkF m 79 #[.val (.int p1), .unset, .unset, .unset, .unset, .unset] [(.int (11 : Int32)), (.ref b1), (.ref b1)])) rfl (hb hby at_79)
  obtain ⟨cl36, Ar36, q36, Sz36, Nn36, Hh36, Gg36⟩ := (id (Arv.pad V34 (pad_rep [(.ref (A 0)), (.ref (A 1)), (.ref (A 2)), (.ref (A 3)), (.ref (A 4)), (.ref (A 5)), (.ref (A 6)), (.ref (A 7)), (.ref (A 8)), (.ref (A 9)), (.ref (A 10))] .null 1)))
  have hin36 : ¬ ((11 : Int32) < 0 ∨ cl36.slots.size ≤ ((11 : Int32)).toNatClampNeg) := inb_of Sz36 ⟨by decide, by decide⟩
  obtain ⟨T37, h37, X37, e37, W37, st37⟩ := stR X35 hx hZ e35 Ar36 (j := (11 : Int32)) hin36 rfl (Sto.ofV Ar36 q36 O1 (Ins.self (EN.2.2.1.2.2.2.2.2.2.2.1.ext OL34.2))) (g := (mkF m 82 #[.val (.int p1), .unset, .unset, .unset, .unset, .unset] [(.ref (A 11)), (.int (11 : Int32)), (.ref b1), (.ref b1)])) rfl rfl (hb hby at_82)
  have NF37 := Fr.snoc X37 NF34 gn_b1
  have OL37 : Old Z n0 h37 := OL34.wr W37 gn_b1
  have KK37 : Keep h0 h37 [] := KK34.wr W37 (Or.inr sz_b1)
  have V37 : Arv Z h37 b1 k1 (.object "com/example/dongl/dongl/core/ErrorCode") (22 : Int32) [(.ref (A 0)), (.ref (A 1)), (.ref (A 2)), (.ref (A 3)), (.ref (A 4)), (.ref (A 5)), (.ref (A 6)), (.ref (A 7)), (.ref (A 8)), (.ref (A 9)), (.ref (A 10)), (.ref (A 11))] .null := Arv.set Ar36 q36 Sz36 Nn36 Hh36 Gg36 rfl W37 11 (by decide) (by decide : 11 < 12)
  obtain ⟨T38, X38, e38, st38⟩ := getS2 X37 hx hZ hown (host := "") (Or.inl (hw _ (List.mem_of_getElem? (i := 28) rfl))) Via.refl e37 (EN.2.2.2.1.1.ext OL37.2) (g := (mkF m 86 #[.val (.int p1), .unset, .unset, .unset, .unset, .unset] [(.int (12 : Int32)), (.ref b1), (.ref b1)])) rfl (hb hby at_86)
  obtain ⟨cl39, Ar39, q39, Sz39, Nn39, Hh39, Gg39⟩ := (id (Arv.pad V37 (pad_rep [(.ref (A 0)), (.ref (A 1)), (.ref (A 2)), (.ref (A 3)), (.ref (A 4)), (.ref (A 5)), (.ref (A 6)), (.ref (A 7)), (.ref (A 8)), (.ref (A 9)), (.ref (A 10)), (.ref (A 11))] .null 1)))
  have hin39 : ¬ ((12 : Int32) < 0 ∨ cl39.slots.size ≤ ((12 : Int32)).toNatClampNeg) := inb_of Sz39 ⟨by decide, by decide⟩
  obtain ⟨T40, h40, X40, e40, W40, st40⟩ := stR X38 hx hZ e38 Ar39 (j := (12 : Int32)) hin39 rfl (Sto.ofV Ar39 q39 O1 (Ins.self (EN.2.2.2.1.2.1.ext OL37.2))) (g := (mkF m 89 #[.val (.int p1), .unset, .unset, .unset, .unset, .unset] [(.ref (A 12)), (.int (12 : Int32)), (.ref b1), (.ref b1)])) rfl rfl (hb hby at_89)
  have NF40 := Fr.snoc X40 NF37 gn_b1
  have OL40 : Old Z n0 h40 := OL37.wr W40 gn_b1
  have KK40 : Keep h0 h40 [] := KK37.wr W40 (Or.inr sz_b1)
  have V40 : Arv Z h40 b1 k1 (.object "com/example/dongl/dongl/core/ErrorCode") (22 : Int32) [(.ref (A 0)), (.ref (A 1)), (.ref (A 2)), (.ref (A 3)), (.ref (A 4)), (.ref (A 5)), (.ref (A 6)), (.ref (A 7)), (.ref (A 8)), (.ref (A 9)), (.ref (A 10)), (.ref (A 11)), (.ref (A 12))] .null := Arv.set Ar39 q39 Sz39 Nn39 Hh39 Gg39 rfl W40 12 (by decide) (by decide : 12 < 13)
  obtain ⟨T41, X41, e41, st41⟩ := getS2 X40 hx hZ hown (host := "") (Or.inl (hw _ (List.mem_of_getElem? (i := 30) rfl))) Via.refl e40 (EN.2.2.2.1.2.2.1.ext OL40.2) (g := (mkF m 93 #[.val (.int p1), .unset, .unset, .unset, .unset, .unset] [(.int (13 : Int32)), (.ref b1), (.ref b1)])) rfl (hb hby at_93)
  obtain ⟨cl42, Ar42, q42, Sz42, Nn42, Hh42, Gg42⟩ := (id (Arv.pad V40 (pad_rep [(.ref (A 0)), (.ref (A 1)), (.ref (A 2)), (.ref (A 3)), (.ref (A 4)), (.ref (A 5)), (.ref (A 6)), (.ref (A 7)), (.ref (A 8)), (.ref (A 9)), (.ref (A 10)), (.ref (A 11)), (.ref (A 12))] .null 1)))
  have hin42 : ¬ ((13 : Int32) < 0 ∨ cl42.slots.size ≤ ((13 : Int32)).toNatClampNeg) := inb_of Sz42 ⟨by decide, by decide⟩
  obtain ⟨T43, h43, X43, e43, W43, st43⟩ := stR X41 hx hZ e41 Ar42 (j := (13 : Int32)) hin42 rfl (Sto.ofV Ar42 q42 O1 (Ins.self (EN.2.2.2.1.2.2.2.1.ext OL40.2))) (g := (mkF m 96 #[.val (.int p1), .unset, .unset, .unset, .unset, .unset] [(.ref (A 13)), (.int (13 : Int32)), (.ref b1), (.ref b1)])) rfl rfl (hb hby at_96)
  have NF43 := Fr.snoc X43 NF40 gn_b1
  have OL43 : Old Z n0 h43 := OL40.wr W43 gn_b1
  have KK43 : Keep h0 h43 [] := KK40.wr W43 (Or.inr sz_b1)
  have V43 : Arv Z h43 b1 k1 (.object "com/example/dongl/dongl/core/ErrorCode") (22 : Int32) [(.ref (A 0)), (.ref (A 1)), (.ref (A 2)), (.ref (A 3)), (.ref (A 4)), (.ref (A 5)), (.ref (A 6)), (.ref (A 7)), (.ref (A 8)), (.ref (A 9)), (.ref (A 10)), (.ref (A 11)), (.ref (A 12)), (.ref (A 13))] .null := Arv.set Ar42 q42 Sz42 Nn42 Hh42 Gg42 rfl W43 13 (by decide) (by decide : 13 < 14)
  obtain ⟨T44, X44, e44, st44⟩ := getS2 X43 hx hZ hown (host := "") (Or.inl (hw _ (List.mem_of_getElem? (i := 32) rfl))) Via.refl e43 (EN.2.2.2.1.2.2.2.2.1.ext OL43.2) (g := (mkF m 100 #[.val (.int p1), .unset, .unset, .unset, .unset, .unset] [(.int (14 : Int32)), (.ref b1), (.ref b1)])) rfl (hb hby at_100)
  obtain ⟨cl45, Ar45, q45, Sz45, Nn45, Hh45, Gg45⟩ := (id (Arv.pad V43 (pad_rep [(.ref (A 0)), (.ref (A 1)), (.ref (A 2)), (.ref (A 3)), (.ref (A 4)), (.ref (A 5)), (.ref (A 6)), (.ref (A 7)), (.ref (A 8)), (.ref (A 9)), (.ref (A 10)), (.ref (A 11)), (.ref (A 12)), (.ref (A 13))] .null 1)))
  have hin45 : ¬ ((14 : Int32) < 0 ∨ cl45.slots.size ≤ ((14 : Int32)).toNatClampNeg) := inb_of Sz45 ⟨by decide, by decide⟩
  obtain ⟨T46, h46, X46, e46, W46, st46⟩ := stR X44 hx hZ e44 Ar45 (j := (14 : Int32)) hin45 rfl (Sto.ofV Ar45 q45 O1 (Ins.self (EN.2.2.2.1.2.2.2.2.2.1.ext OL43.2))) (g := (mkF m 103 #[.val (.int p1), .unset, .unset, .unset, .unset, .unset] [(.ref (A 14)), (.int (14 : Int32)), (.ref b1), (.ref b1)])) rfl rfl (hb hby at_103)
  have NF46 := Fr.snoc X46 NF43 gn_b1
  have OL46 : Old Z n0 h46 := OL43.wr W46 gn_b1
  have KK46 : Keep h0 h46 [] := KK43.wr W46 (Or.inr sz_b1)
  have V46 : Arv Z h46 b1 k1 (.object "com/example/dongl/dongl/core/ErrorCode") (22 : Int32) [(.ref (A 0)), (.ref (A 1)), (.ref (A 2)), (.ref (A 3)), (.ref (A 4)), (.ref (A 5)), (.ref (A 6)), (.ref (A 7)), (.ref (A 8)), (.ref (A 9)), (.ref (A 10)), (.ref (A 11)), (.ref (A 12)), (.ref (A 13)), (.ref (A 14))] .null := Arv.set Ar45 q45 Sz45 Nn45 Hh45 Gg45 rfl W46 14 (by decide) (by decide : 14 < 15)
  obtain ⟨T47, X47, e47, st47⟩ := getS2 X46 hx hZ hown (host := "") (Or.inl (hw _ (List.mem_of_getElem? (i := 34) rfl))) Via.refl e46 (EN.2.2.2.1.2.2.2.2.2.2.1.ext OL46.2) (g := (mkF m 107 #[.val (.int p1), .unset, .unset, .unset, .unset, .unset] [(.int (15 : Int32)), (.ref b1), (.ref b1)])) rfl (hb hby at_107)
  obtain ⟨cl48, Ar48, q48, Sz48, Nn48, Hh48, Gg48⟩ := (id (Arv.pad V46 (pad_rep [(.ref (A 0)), (.ref (A 1)), (.ref (A 2)), (.ref (A 3)), (.ref (A 4)), (.ref (A 5)), (.ref (A 6)), (.ref (A 7)), (.ref (A 8)), (.ref (A 9)), (.ref (A 10)), (.ref (A 11)), (.ref (A 12)), (.ref (A 13)), (.ref (A 14))] .null 1)))
  have hin48 : ¬ ((15 : Int32) < 0 ∨ cl48.slots.size ≤ ((15 : Int32)).toNatClampNeg) := inb_of Sz48 ⟨by decide, by decide⟩
  obtain ⟨T49, h49, X49, e49, W49, st49⟩ := stR X47 hx hZ e47 Ar48 (j := (15 : Int32)) hin48 rfl (Sto.ofV Ar48 q48 O1 (Ins.self (EN.2.2.2.1.2.2.2.2.2.2.2.1.ext OL46.2))) (g := (mkF m 110 #[.val (.int p1), .unset, .unset, .unset, .unset, .unset] [(.ref (A 15)), (.int (15 : Int32)), (.ref b1), (.ref b1)])) rfl rfl (hb hby at_110)
  have NF49 := Fr.snoc X49 NF46 gn_b1
  have OL49 : Old Z n0 h49 := OL46.wr W49 gn_b1
  have KK49 : Keep h0 h49 [] := KK46.wr W49 (Or.inr sz_b1)
  have V49 : Arv Z h49 b1 k1 (.object "com/example/dongl/dongl/core/ErrorCode") (22 : Int32) [(.ref (A 0)), (.ref (A 1)), (.ref (A 2)), (.ref (A 3)), (.ref (A 4)), (.ref (A 5)), (.ref (A 6)), (.ref (A 7)), (.ref (A 8)), (.ref (A 9)), (.ref (A 10)), (.ref (A 11)), (.ref (A 12)), (.ref (A 13)), (.ref (A 14)), (.ref (A 15))] .null := Arv.set Ar48 q48 Sz48 Nn48 Hh48 Gg48 rfl W49 15 (by decide) (by decide : 15 < 16)
  obtain ⟨T50, X50, e50, st50⟩ := getS2 X49 hx hZ hown (host := "") (Or.inl (hw _ (List.mem_of_getElem? (i := 36) rfl))) Via.refl e49 (EN.2.2.2.2.1.1.ext OL49.2) (g := (mkF m 114 #[.val (.int p1), .unset, .unset, .unset, .unset, .unset] [(.int (16 : Int32)), (.ref b1), (.ref b1)])) rfl (hb hby at_114)
  obtain ⟨cl51, Ar51, q51, Sz51, Nn51, Hh51, Gg51⟩ := (id (Arv.pad V49 (pad_rep [(.ref (A 0)), (.ref (A 1)), (.ref (A 2)), (.ref (A 3)), (.ref (A 4)), (.ref (A 5)), (.ref (A 6)), (.ref (A 7)), (.ref (A 8)), (.ref (A 9)), (.ref (A 10)), (.ref (A 11)), (.ref (A 12)), (.ref (A 13)), (.ref (A 14)), (.ref (A 15))] .null 1)))
  have hin51 : ¬ ((16 : Int32) < 0 ∨ cl51.slots.size ≤ ((16 : Int32)).toNatClampNeg) := inb_of Sz51 ⟨by decide, by decide⟩
  obtain ⟨T52, h52, X52, e52, W52, st52⟩ := stR X50 hx hZ e50 Ar51 (j := (16 : Int32)) hin51 rfl (Sto.ofV Ar51 q51 O1 (Ins.self (EN.2.2.2.2.1.2.1.ext OL49.2))) (g := (mkF m 117 #[.val (.int p1), .unset, .unset, .unset, .unset, .unset] [(.ref (A 16)), (.int (16 : Int32)), (.ref b1), (.ref b1)])) rfl rfl (hb hby at_117)
  have NF52 := Fr.snoc X52 NF49 gn_b1
  have OL52 : Old Z n0 h52 := OL49.wr W52 gn_b1
  have KK52 : Keep h0 h52 [] := KK49.wr W52 (Or.inr sz_b1)
  have V52 : Arv Z h52 b1 k1 (.object "com/example/dongl/dongl/core/ErrorCode") (22 : Int32) [(.ref (A 0)), (.ref (A 1)), (.ref (A 2)), (.ref (A 3)), (.ref (A 4)), (.ref (A 5)), (.ref (A 6)), (.ref (A 7)), (.ref (A 8)), (.ref (A 9)), (.ref (A 10)), (.ref (A 11)), (.ref (A 12)), (.ref (A 13)), (.ref (A 14)), (.ref (A 15)), (.ref (A 16))] .null := Arv.set Ar51 q51 Sz51 Nn51 Hh51 Gg51 rfl W52 16 (by decide) (by decide : 16 < 17)
  obtain ⟨T53, X53, e53, st53⟩ := getS2 X52 hx hZ hown (host := "") (Or.inl (hw _ (List.mem_of_getElem? (i := 38) rfl))) Via.refl e52 (EN.2.2.2.2.1.2.2.1.ext OL52.2) (g := (mkF m 121 #[.val (.int p1), .unset, .unset, .unset, .unset, .unset] [(.int (17 : Int32)), (.ref b1), (.ref b1)])) rfl (hb hby at_121)
  obtain ⟨cl54, Ar54, q54, Sz54, Nn54, Hh54, Gg54⟩ := (id (Arv.pad V52 (pad_rep [(.ref (A 0)), (.ref (A 1)), (.ref (A 2)), (.ref (A 3)), (.ref (A 4)), (.ref (A 5)), (.ref (A 6)), (.ref (A 7)), (.ref (A 8)), (.ref (A 9)), (.ref (A 10)), (.ref (A 11)), (.ref (A 12)), (.ref (A 13)), (.ref (A 14)), (.ref (A 15)), (.ref (A 16))] .null 1)))
  have hin54 : ¬ ((17 : Int32) < 0 ∨ cl54.slots.size ≤ ((17 : Int32)).toNatClampNeg) := inb_of Sz54 ⟨by decide, by decide⟩
  obtain ⟨T55, h55, X55, e55, W55, st55⟩ := stR X53 hx hZ e53 Ar54 (j := (17 : Int32)) hin54 rfl (Sto.ofV Ar54 q54 O1 (Ins.self (EN.2.2.2.2.1.2.2.2.1.ext OL52.2))) (g := (mkF m 124 #[.val (.int p1), .unset, .unset, .unset, .unset, .unset] [(.ref (A 17)), (.int (17 : Int32)), (.ref b1), (.ref b1)])) rfl rfl (hb hby at_124)
  have NF55 := Fr.snoc X55 NF52 gn_b1
  have OL55 : Old Z n0 h55 := OL52.wr W55 gn_b1
  have KK55 : Keep h0 h55 [] := KK52.wr W55 (Or.inr sz_b1)
  have V55 : Arv Z h55 b1 k1 (.object "com/example/dongl/dongl/core/ErrorCode") (22 : Int32) [(.ref (A 0)), (.ref (A 1)), (.ref (A 2)), (.ref (A 3)), (.ref (A 4)), (.ref (A 5)), (.ref (A 6)), (.ref (A 7)), (.ref (A 8)), (.ref (A 9)), (.ref (A 10)), (.ref (A 11)), (.ref (A 12)), (.ref (A 13)), (.ref (A 14)), (.ref (A 15)), (.ref (A 16)), (.ref (A 17))] .null := Arv.set Ar54 q54 Sz54 Nn54 Hh54 Gg54 rfl W55 17 (by decide) (by decide : 17 < 18)
  obtain ⟨T56, X56, e56, st56⟩ := getS2 X55 hx hZ hown (host := "") (Or.inl (hw _ (List.mem_of_getElem? (i := 40) rfl))) Via.refl e55 (EN.2.2.2.2.1.2.2.2.2.1.ext OL55.2) (g := (mkF m 128 #[.val (.int p1), .unset, .unset, .unset, .unset, .unset] [(.int (18 : Int32)), (.ref b1), (.ref b1)])) rfl (hb hby at_128)
  obtain ⟨cl57, Ar57, q57, Sz57, Nn57, Hh57, Gg57⟩ := (id (Arv.pad V55 (pad_rep [(.ref (A 0)), (.ref (A 1)), (.ref (A 2)), (.ref (A 3)), (.ref (A 4)), (.ref (A 5)), (.ref (A 6)), (.ref (A 7)), (.ref (A 8)), (.ref (A 9)), (.ref (A 10)), (.ref (A 11)), (.ref (A 12)), (.ref (A 13)), (.ref (A 14)), (.ref (A 15)), (.ref (A 16)), (.ref (A 17))] .null 1)))
  have hin57 : ¬ ((18 : Int32) < 0 ∨ cl57.slots.size ≤ ((18 : Int32)).toNatClampNeg) := inb_of Sz57 ⟨by decide, by decide⟩
  obtain ⟨T58, h58, X58, e58, W58, st58⟩ := stR X56 hx hZ e56 Ar57 (j := (18 : Int32)) hin57 rfl (Sto.ofV Ar57 q57 O1 (Ins.self (EN.2.2.2.2.1.2.2.2.2.2.1.ext OL55.2))) (g := (mkF m 131 #[.val (.int p1), .unset, .unset, .unset, .unset, .unset] [(.ref (A 18)), (.int (18 : Int32)), (.ref b1), (.ref b1)])) rfl rfl (hb hby at_131)
  have NF58 := Fr.snoc X58 NF55 gn_b1
  have OL58 : Old Z n0 h58 := OL55.wr W58 gn_b1
  have KK58 : Keep h0 h58 [] := KK55.wr W58 (Or.inr sz_b1)
  have V58 : Arv Z h58 b1 k1 (.object "com/example/dongl/dongl/core/ErrorCode") (22 : Int32) [(.ref (A 0)), (.ref (A 1)), (.ref (A 2)), (.ref (A 3)), (.ref (A 4)), (.ref (A 5)), (.ref (A 6)), (.ref (A 7)), (.ref (A 8)), (.ref (A 9)), (.ref (A 10)), (.ref (A 11)), (.ref (A 12)), (.ref (A 13)), (.ref (A 14)), (.ref (A 15)), (.ref (A 16)), (.ref (A 17)), (.ref (A 18))] .null := Arv.set Ar57 q57 Sz57 Nn57 Hh57 Gg57 rfl W58 18 (by decide) (by decide : 18 < 19)
  obtain ⟨T59, X59, e59, st59⟩ := getS2 X58 hx hZ hown (host := "") (Or.inl (hw _ (List.mem_of_getElem? (i := 42) rfl))) Via.refl e58 (EN.2.2.2.2.1.2.2.2.2.2.2.1.ext OL58.2) (g := (mkF m 135 #[.val (.int p1), .unset, .unset, .unset, .unset, .unset] [(.int (19 : Int32)), (.ref b1), (.ref b1)])) rfl (hb hby at_135)
  obtain ⟨cl60, Ar60, q60, Sz60, Nn60, Hh60, Gg60⟩ := (id (Arv.pad V58 (pad_rep [(.ref (A 0)), (.ref (A 1)), (.ref (A 2)), (.ref (A 3)), (.ref (A 4)), (.ref (A 5)), (.ref (A 6)), (.ref (A 7)), (.ref (A 8)), (.ref (A 9)), (.ref (A 10)), (.ref (A 11)), (.ref (A 12)), (.ref (A 13)), (.ref (A 14)), (.ref (A 15)), (.ref (A 16)), (.ref (A 17)), (.ref (A 18))] .null 1)))
  have hin60 : ¬ ((19 : Int32) < 0 ∨ cl60.slots.size ≤ ((19 : Int32)).toNatClampNeg) := inb_of Sz60 ⟨by decide, by decide⟩
  obtain ⟨T61, h61, X61, e61, W61, st61⟩ := stR X59 hx hZ e59 Ar60 (j := (19 : Int32)) hin60 rfl (Sto.ofV Ar60 q60 O1 (Ins.self (EN.2.2.2.2.1.2.2.2.2.2.2.2.1.ext OL58.2))) (g := (mkF m 138 #[.val (.int p1), .unset, .unset, .unset, .unset, .unset] [(.ref (A 19)), (.int (19 : Int32)), (.ref b1), (.ref b1)])) rfl rfl (hb hby at_138)
  have NF61 := Fr.snoc X61 NF58 gn_b1
  have OL61 : Old Z n0 h61 := OL58.wr W61 gn_b1
  have KK61 : Keep h0 h61 [] := KK58.wr W61 (Or.inr sz_b1)
  have V61 : Arv Z h61 b1 k1 (.object "com/example/dongl/dongl/core/ErrorCode") (22 : Int32) [(.ref (A 0)), (.ref (A 1)), (.ref (A 2)), (.ref (A 3)), (.ref (A 4)), (.ref (A 5)), (.ref (A 6)), (.ref (A 7)), (.ref (A 8)), (.ref (A 9)), (.ref (A 10)), (.ref (A 11)), (.ref (A 12)), (.ref (A 13)), (.ref (A 14)), (.ref (A 15)), (.ref (A 16)), (.ref (A 17)), (.ref (A 18)), (.ref (A 19))] .null := Arv.set Ar60 q60 Sz60 Nn60 Hh60 Gg60 rfl W61 19 (by decide) (by decide : 19 < 20)
  obtain ⟨T62, X62, e62, st62⟩ := getS2 X61 hx hZ hown (host := "") (Or.inl (hw _ (List.mem_of_getElem? (i := 44) rfl))) Via.refl e61 (EN.2.2.2.2.2.1.1.ext OL61.2) (g := (mkF m 142 #[.val (.int p1), .unset, .unset, .unset, .unset, .unset] [(.int (20 : Int32)), (.ref b1), (.ref b1)])) rfl (hb hby at_142)
  obtain ⟨cl63, Ar63, q63, Sz63, Nn63, Hh63, Gg63⟩ := (id (Arv.pad V61 (pad_rep [(.ref (A 0)), (.ref (A 1)), (.ref (A 2)), (.ref (A 3)), (.ref (A 4)), (.ref (A 5)), (.ref (A 6)), (.ref (A 7)), (.ref (A 8)), (.ref (A 9)), (.ref (A 10)), (.ref (A 11)), (.ref (A 12)), (.ref (A 13)), (.ref (A 14)), (.ref (A 15)), (.ref (A 16)), (.ref (A 17)), (.ref (A 18)), (.ref (A 19))] .null 1)))
  have hin63 : ¬ ((20 : Int32) < 0 ∨ cl63.slots.size ≤ ((20 : Int32)).toNatClampNeg) := inb_of Sz63 ⟨by decide, by decide⟩
  obtain ⟨T64, h64, X64, e64, W64, st64⟩ := stR X62 hx hZ e62 Ar63 (j := (20 : Int32)) hin63 rfl (Sto.ofV Ar63 q63 O1 (Ins.self (EN.2.2.2.2.2.1.2.1.ext OL61.2))) (g := (mkF m 145 #[.val (.int p1), .unset, .unset, .unset, .unset, .unset] [(.ref (A 20)), (.int (20 : Int32)), (.ref b1), (.ref b1)])) rfl rfl (hb hby at_145)
  have NF64 := Fr.snoc X64 NF61 gn_b1
  have OL64 : Old Z n0 h64 := OL61.wr W64 gn_b1
  have KK64 : Keep h0 h64 [] := KK61.wr W64 (Or.inr sz_b1)
  have V64 : Arv Z h64 b1 k1 (.object "com/example/dongl/dongl/core/ErrorCode") (22 : Int32) [(.ref (A 0)), (.ref (A 1)), (.ref (A 2)), (.ref (A 3)), (.ref (A 4)), (.ref (A 5)), (.ref (A 6)), (.ref (A 7)), (.ref (A 8)), (.ref (A 9)), (.ref (A 10)), (.ref (A 11)), (.ref (A 12)), (.ref (A 13)), (.ref (A 14)), (.ref (A 15)), (.ref (A 16)), (.ref (A 17)), (.ref (A 18)), (.ref (A 19)), (.ref (A 20))] .null := Arv.set Ar63 q63 Sz63 Nn63 Hh63 Gg63 rfl W64 20 (by decide) (by decide : 20 < 21)
  obtain ⟨T65, X65, e65, st65⟩ := getS2 X64 hx hZ hown (host := "") (Or.inl (hw _ (List.mem_of_getElem? (i := 46) rfl))) Via.refl e64 (EN.2.2.2.2.2.1.2.2.1.ext OL64.2) (g := (mkF m 149 #[.val (.int p1), .unset, .unset, .unset, .unset, .unset] [(.int (21 : Int32)), (.ref b1), (.ref b1)])) rfl (hb hby at_149)
  obtain ⟨cl66, Ar66, q66, Sz66, Nn66, Hh66, Gg66⟩ := (id (Arv.pad V64 (pad_rep [(.ref (A 0)), (.ref (A 1)), (.ref (A 2)), (.ref (A 3)), (.ref (A 4)), (.ref (A 5)), (.ref (A 6)), (.ref (A 7)), (.ref (A 8)), (.ref (A 9)), (.ref (A 10)), (.ref (A 11)), (.ref (A 12)), (.ref (A 13)), (.ref (A 14)), (.ref (A 15)), (.ref (A 16)), (.ref (A 17)), (.ref (A 18)), (.ref (A 19)), (.ref (A 20))] .null 1)))
  have hin66 : ¬ ((21 : Int32) < 0 ∨ cl66.slots.size ≤ ((21 : Int32)).toNatClampNeg) := inb_of Sz66 ⟨by decide, by decide⟩
  obtain ⟨T67, h67, X67, e67, W67, st67⟩ := stR X65 hx hZ e65 Ar66 (j := (21 : Int32)) hin66 rfl (Sto.ofV Ar66 q66 O1 (Ins.self (EN.2.2.2.2.2.1.2.2.2.1.ext OL64.2))) (g := (mkF m 152 #[.val (.int p1), .unset, .unset, .unset, .unset, .unset] [(.ref (A 21)), (.int (21 : Int32)), (.ref b1), (.ref b1)])) rfl rfl (hb hby at_152)
  have NF67 := Fr.snoc X67 NF64 gn_b1
  have OL67 : Old Z n0 h67 := OL64.wr W67 gn_b1
  have KK67 : Keep h0 h67 [] := KK64.wr W67 (Or.inr sz_b1)
  have V67 : Arv Z h67 b1 k1 (.object "com/example/dongl/dongl/core/ErrorCode") (22 : Int32) [(.ref (A 0)), (.ref (A 1)), (.ref (A 2)), (.ref (A 3)), (.ref (A 4)), (.ref (A 5)), (.ref (A 6)), (.ref (A 7)), (.ref (A 8)), (.ref (A 9)), (.ref (A 10)), (.ref (A 11)), (.ref (A 12)), (.ref (A 13)), (.ref (A 14)), (.ref (A 15)), (.ref (A 16)), (.ref (A 17)), (.ref (A 18)), (.ref (A 19)), (.ref (A 20)), (.ref (A 21))] .null := Arv.set Ar66 q66 Sz66 Nn66 Hh66 Gg66 rfl W67 21 (by decide) (by decide : 21 < 22)
  obtain ⟨T68, h68, k68, X68, e68, E68, A68, O68, st68⟩ := newR X67 hx hZ hown (hw _ (List.mem_of_getElem? (i := 0) rfl)) (hw _ (List.mem_of_getElem? (i := 1) rfl)) e67 (g := (mkF m 156 #[.val (.int p1), .val (.ref b1), .unset, .unset, .unset, .unset] [(.int (22 : Int32))])) rfl (hb hby at_156) rfl (by decide) (cap := 22) (by decide) (by decide) (by decide) (by decide)
  obtain ⟨b68, g68⟩ : ∃ z, z = h67.size := ⟨_, rfl⟩
  rw [← g68] at A68 st68
  have gn_b68 : n0 ≤ b68 := Nat.le_trans (OL67.1 ▸ OL67.2.1) (Nat.le_of_eq g68.symm)
  have sz_b68 : h0.size ≤ b68 := Nat.le_trans KK67.1 (Nat.le_of_eq g68.symm)
  have lt_b1_b68 : b1 < b68 := Nat.lt_of_lt_of_le V67.lt (Nat.le_of_eq g68.symm)
  have OL68 : Old Z n0 h68 := OL67.ext E68
  have KK68 : Keep h0 h68 [] := KK67.ext E68
  have V68 : Arv Z h68 b68 k68 (.object "com/example/dongl/dongl/core/ErrorCode") (22 : Int32) [] .null := Arv.new A68 (by decide)
  obtain ⟨T69, X69, e69, st69⟩ := getS2 X68 hx hZ hown (host := "") (Or.inl (hw _ (List.mem_of_getElem? (i := 2) rfl))) Via.refl e68 (EN.1.1.ext OL68.2) (g := (mkF m 161 #[.val (.int p1), .val (.ref b1), .unset, .unset, .unset, .unset] [(.int (0 : Int32)), (.ref b68), (.ref b68)])) rfl (hb hby at_161)
  obtain ⟨cl70, Ar70, q70, Sz70, Nn70, Hh70, Gg70⟩ := (id (Arv.pad V68 (pad_rep [] .null 1)))
  have hin70 : ¬ ((0 : Int32) < 0 ∨ cl70.slots.size ≤ ((0 : Int32)).toNatClampNeg) := inb_of Sz70 ⟨by decide, by decide⟩
  obtain ⟨T71, h71, X71, e71, W71, st71⟩ := stR X69 hx hZ e69 Ar70 (j := (0 : Int32)) hin70 rfl (Sto.ofV Ar70 q70 O68 (Ins.self (EN.1.2.1.ext OL68.2))) (g := (mkF m 164 #[.val (.int p1), .val (.ref b1), .unset, .unset, .unset, .unset] [(.ref (A 0)), (.int (0 : Int32)), (.ref b68), (.ref b68)])) rfl rfl (hb hby at_164)
  have NF71 := Fr.snoc X71 NF67 gn_b68
  have OL71 : Old Z n0 h71 := OL68.wr W71 gn_b68
  have KK71 : Keep h0 h71 [] := KK68.wr W71 (Or.inr sz_b68)
  have V71 : Arv Z h71 b68 k68 (.object "com/example/dongl/dongl/core/ErrorCode") (22 : Int32) [(.ref (A 0))] .null := Arv.set Ar70 q70 Sz70 Nn70 Hh70 Gg70 rfl W71 0 (by decide) (by decide : 0 < 1)
  obtain ⟨T72, X72, e72, st72⟩ := getS2 X71 hx hZ hown (host := "") (Or.inl (hw _ (List.mem_of_getElem? (i := 6) rfl))) Via.refl e71 (EN.1.2.2.1.ext OL71.2) (g := (mkF m 167 #[.val (.int p1), .val (.ref b1), .unset, .unset, .unset, .unset] [(.int (1 : Int32)), (.ref b68), (.ref b68)])) rfl (hb hby at_167)
  obtain ⟨cl73, Ar73, q73, Sz73, Nn73, Hh73, Gg73⟩ := (id (Arv.pad V71 (pad_rep [(.ref (A 0))] .null 1)))
  have hin73 : ¬ ((1 : Int32) < 0 ∨ cl73.slots.size ≤ ((1 : Int32)).toNatClampNeg) := inb_of Sz73 ⟨by decide, by decide⟩
  obtain ⟨T74, h74, X74, e74, W74, st74⟩ := stR X72 hx hZ e72 Ar73 (j := (1 : Int32)) hin73 rfl (Sto.ofV Ar73 q73 O68 (Ins.self (EN.1.2.2.2.1.ext OL71.2))) (g := (mkF m 170 #[.val (.int p1), .val (.ref b1), .unset, .unset, .unset, .unset] [(.ref (A 1)), (.int (1 : Int32)), (.ref b68), (.ref b68)])) rfl rfl (hb hby at_170)
  have NF74 := Fr.snoc X74 NF71 gn_b68
  have OL74 : Old Z n0 h74 := OL71.wr W74 gn_b68
  have KK74 : Keep h0 h74 [] := KK71.wr W74 (Or.inr sz_b68)
  have V74 : Arv Z h74 b68 k68 (.object "com/example/dongl/dongl/core/ErrorCode") (22 : Int32) [(.ref (A 0)), (.ref (A 1))] .null := Arv.set Ar73 q73 Sz73 Nn73 Hh73 Gg73 rfl W74 1 (by decide) (by decide : 1 < 2)
  obtain ⟨T75, X75, e75, st75⟩ := getS2 X74 hx hZ hown (host := "") (Or.inl (hw _ (List.mem_of_getElem? (i := 8) rfl))) Via.refl e74 (EN.1.2.2.2.2.1.ext OL74.2) (g := (mkF m 173 #[.val (.int p1), .val (.ref b1), .unset, .unset, .unset, .unset] [(.int (2 : Int32)), (.ref b68), (.ref b68)])) rfl (hb hby at_173)
  obtain ⟨cl76, Ar76, q76, Sz76, Nn76, Hh76, Gg76⟩ := (id (Arv.pad V74 (pad_rep [(.ref (A 0)), (.ref (A 1))] .null 1)))
  have hin76 : ¬ ((2 : Int32) < 0 ∨ cl76.slots.size ≤ ((2 : Int32)).toNatClampNeg) := inb_of Sz76 ⟨by decide, by decide⟩
  obtain ⟨T77, h77, X77, e77, W77, st77⟩ := stR X75 hx hZ e75 Ar76 (j := (2 : Int32)) hin76 rfl (Sto.ofV Ar76 q76 O68 (Ins.self (EN.1.2.2.2.2.2.1.ext OL74.2))) (g := (mkF m 176 #[.val (.int p1), .val (.ref b1), .unset, .unset, .unset, .unset] [(.ref (A 2)), (.int (2 : Int32)), (.ref b68), (.ref b68)])) rfl rfl (hb hby at_176)
  have NF77 := Fr.snoc X77 NF74 gn_b68
  have OL77 : Old Z n0 h77 := OL74.wr W77 gn_b68
  have KK77 : Keep h0 h77 [] := KK74.wr W77 (Or.inr sz_b68)
  have V77 : Arv Z h77 b68 k68 (.object "com/example/dongl/dongl/core/ErrorCode") (22 : Int32) [(.ref (A 0)), (.ref (A 1)), (.ref (A 2))] .null := Arv.set Ar76 q76 Sz76 Nn76 Hh76 Gg76 rfl W77 2 (by decide) (by decide : 2 < 3)
  obtain ⟨T78, X78, e78, st78⟩ := getS2 X77 hx hZ hown (host := "") (Or.inl (hw _ (List.mem_of_getElem? (i := 44) rfl))) Via.refl e77 (EN.2.2.2.2.2.1.1.ext OL77.2) (g := (mkF m 179 #[.val (.int p1), .val (.ref b1), .unset, .unset, .unset, .unset] [(.int (3 : Int32)), (.ref b68), (.ref b68)])) rfl (hb hby at_179)
  obtain ⟨cl79, Ar79, q79, Sz79, Nn79, Hh79, Gg79⟩ := (id (Arv.pad V77 (pad_rep [(.ref (A 0)), (.ref (A 1)), (.ref (A 2))] .null 1)))
  have hin79 : ¬ ((3 : Int32) < 0 ∨ cl79.slots.size ≤ ((3 : Int32)).toNatClampNeg) := inb_of Sz79 ⟨by decide, by decide⟩
  obtain ⟨T80, h80, X80, e80, W80, st80⟩ := stR X78 hx hZ e78 Ar79 (j := (3 : Int32)) hin79 rfl (Sto.ofV Ar79 q79 O68 (Ins.self (EN.2.2.2.2.2.1.2.1.ext OL77.2))) (g := (mkF m 182 #[.val (.int p1), .val (.ref b1), .unset, .unset, .unset, .unset] [(.ref (A 20)), (.int (3 : Int32)), (.ref b68), (.ref b68)])) rfl rfl (hb hby at_182)
  have NF80 := Fr.snoc X80 NF77 gn_b68
  have OL80 : Old Z n0 h80 := OL77.wr W80 gn_b68
  have KK80 : Keep h0 h80 [] := KK77.wr W80 (Or.inr sz_b68)
  have V80 : Arv Z h80 b68 k68 (.object "com/example/dongl/dongl/core/ErrorCode") (22 : Int32) [(.ref (A 0)), (.ref (A 1)), (.ref (A 2)), (.ref (A 20))] .null := Arv.set Ar79 q79 Sz79 Nn79 Hh79 Gg79 rfl W80 3 (by decide) (by decide : 3 < 4)
  obtain ⟨T81, X81, e81, st81⟩ := getS2 X80 hx hZ hown (host := "") (Or.inl (hw _ (List.mem_of_getElem? (i := 12) rfl))) Via.refl e80 (EN.2.1.1.ext OL80.2) (g := (mkF m 185 #[.val (.int p1), .val (.ref b1), .unset, .unset, .unset, .unset] [(.int (4 : Int32)), (.ref b68), (.ref b68)])) rfl (hb hby at_185)
  obtain ⟨cl82, Ar82, q82, Sz82, Nn82, Hh82, Gg82⟩ := (id (Arv.pad V80 (pad_rep [(.ref (A 0)), (.ref (A 1)), (.ref (A 2)), (.ref (A 20))] .null 1)))
  have hin82 : ¬ ((4 : Int32) < 0 ∨ cl82.slots.size ≤ ((4 : Int32)).toNatClampNeg) := inb_of Sz82 ⟨by decide, by decide⟩
  obtain ⟨T83, h83, X83, e83, W83, st83⟩ := stR X81 hx hZ e81 Ar82 (j := (4 : Int32)) hin82 rfl (Sto.ofV Ar82 q82 O68 (Ins.self (EN.2.1.2.1.ext OL80.2))) (g := (mkF m 188 #[.val (.int p1), .val (.ref b1), .unset, .unset, .unset, .unset] [(.ref (A 4)), (.int (4 : Int32)), (.ref b68), (.ref b68)])) rfl rfl (hb hby at_188)
  have NF83 := Fr.snoc X83 NF80 gn_b68
  have OL83 : Old Z n0 h83 := OL80.wr W83 gn_b68
  have KK83 : Keep h0 h83 [] := KK80.wr W83 (Or.inr sz_b68)
  have V83 : Arv Z h83 b68 k68 (.object "com/example/dongl/dongl/core/ErrorCode") (22 : Int32) [(.ref (A 0)), (.ref (A 1)), (.ref (A 2)), (.ref (A 20)), (.ref (A 4))] .null := Arv.set Ar82 q82 Sz82 Nn82 Hh82 Gg82 rfl W83 4 (by decide) (by decide : 4 < 5)
  obtain ⟨T84, X84, e84, st84⟩ := getS2 X83 hx hZ hown (host := "") (Or.inl (hw _ (List.mem_of_getElem? (i := 42) rfl))) Via.refl e83 (EN.2.2.2.2.1.2.2.2.2.2.2.1.ext OL83.2) (g := (mkF m 191 #[.val (.int p1), .val (.ref b1), .unset, .unset, .unset, .unset] [(.int (5 : Int32)), (.ref b68), (.ref b68)])) rfl (hb hby at_191)
  obtain ⟨cl85, Ar85, q85, Sz85, Nn85, Hh85, Gg85⟩ := (id (Arv.pad V83 (pad_rep [(.ref (A 0)), (.ref (A 1)), (.ref (A 2)), (.ref (A 20)), (.ref (A 4))] .null 1)))
  have hin85 : ¬ ((5 : Int32) < 0 ∨ cl85.slots.size ≤ ((5 : Int32)).toNatClampNeg) := inb_of Sz85 ⟨by decide, by decide⟩
  obtain ⟨T86, h86, X86, e86, W86, st86⟩ := stR X84 hx hZ e84 Ar85 (j := (5 : Int32)) hin85 rfl (Sto.ofV Ar85 q85 O68 (Ins.self (EN.2.2.2.2.1.2.2.2.2.2.2.2.1.ext OL83.2))) (g := (mkF m 194 #[.val (.int p1), .val (.ref b1), .unset, .unset, .unset, .unset] [(.ref (A 19)), (.int (5 : Int32)), (.ref b68), (.ref b68)])) rfl rfl (hb hby at_194)
  have NF86 := Fr.snoc X86 NF83 gn_b68
  have OL86 : Old Z n0 h86 := OL83.wr W86 gn_b68
  have KK86 : Keep h0 h86 [] := KK83.wr W86 (Or.inr sz_b68)
  have V86 : Arv Z h86 b68 k68 (.object "com/example/dongl/dongl/core/ErrorCode") (22 : Int32) [(.ref (A 0)), (.ref (A 1)), (.ref (A 2)), (.ref (A 20)), (.ref (A 4)), (.ref (A 19))] .null := Arv.set Ar85 q85 Sz85 Nn85 Hh85 Gg85 rfl W86 5 (by decide) (by decide : 5 < 6)
  obtain ⟨T87, X87, e87, st87⟩ := getS2 X86 hx hZ hown (host := "") (Or.inl (hw _ (List.mem_of_getElem? (i := 16) rfl))) Via.refl e86 (EN.2.1.2.2.2.2.1.ext OL86.2) (g := (mkF m 198 #[.val (.int p1), .val (.ref b1), .unset, .unset, .unset, .unset] [(.int (6 : Int32)), (.ref b68), (.ref b68)])) rfl (hb hby at_198)
  obtain ⟨cl88, Ar88, q88, Sz88, Nn88, Hh88, Gg88⟩ := (id (Arv.pad V86 (pad_rep [(.ref (A 0)), (.ref (A 1)), (.ref (A 2)), (.ref (A 20)), (.ref (A 4)), (.ref (A 19))] .null 1)))
  have hin88 : ¬ ((6 : Int32) < 0 ∨ cl88.slots.size ≤ ((6 : Int32)).toNatClampNeg) := inb_of Sz88 ⟨by decide, by decide⟩
  obtain ⟨T89, h89, X89, e89, W89, st89⟩ := stR X87 hx hZ e87 Ar88 (j := (6 : Int32)) hin88 rfl (Sto.ofV Ar88 q88 O68 (Ins.self (EN.2.1.2.2.2.2.2.1.ext OL86.2))) (g := (mkF m 201 #[.val (.int p1), .val (.ref b1), .unset, .unset, .unset, .unset] [(.ref (A 6)), (.int (6 : Int32)), (.ref b68), (.ref b68)])) rfl rfl (hb hby at_201)
  have NF89 := Fr.snoc X89 NF86 gn_b68
  have OL89 : Old Z n0 h89 := OL86.wr W89 gn_b68
  have KK89 : Keep h0 h89 [] := KK86.wr W89 (Or.inr sz_b68)
  have V89 : Arv Z h89 b68 k68 (.object "com/example/dongl/dongl/core/ErrorCode") (22 : Int32) [(.ref (A 0)), (.ref (A 1)), (.ref (A 2)), (.ref (A 20)), (.ref (A 4)), (.ref (A 19)), (.ref (A 6))] .null := Arv.set Ar88 q88 Sz88 Nn88 Hh88 Gg88 rfl W89 6 (by decide) (by decide : 6 < 7)
  obtain ⟨T90, X90, e90, st90⟩ := getS2 X89 hx hZ hown (host := "") (Or.inl (hw _ (List.mem_of_getElem? (i := 18) rfl))) Via.refl e89 (EN.2.1.2.2.2.2.2.2.1.ext OL89.2) (g := (mkF m 205 #[.val (.int p1), .val (.ref b1), .unset, .unset, .unset, .unset] [(.int (7 : Int32)), (.ref b68), (.ref b68)])) rfl (hb hby at_205)
  obtain ⟨cl91, Ar91, q91, Sz91, Nn91, Hh91, Gg91⟩ := (id (Arv.pad V89 (pad_rep [(.ref (A 0)), (.ref (A 1)), (.ref (A 2)), (.ref (A 20)), (.ref (A 4)), (.ref (A 19)), (.ref (A 6))] .null 1)))
  have hin91 : ¬ ((7 : Int32) < 0 ∨ cl91.slots.size ≤ ((7 : Int32)).toNatClampNeg) := inb_of Sz91 ⟨by decide, by decide⟩
  obtain ⟨T92, h92, X92, e92, W92, st92⟩ := stR X90 hx hZ e90 Ar91 (j := (7 : Int32)) hin91 rfl (Sto.ofV Ar91 q91 O68 (Ins.self (EN.2.1.2.2.2.2.2.2.2.1.ext OL89.2))) (g := (mkF m 208 #[.val (.int p1), .val (.ref b1), .unset, .unset, .unset, .unset] [(.ref (A 7)), (.int (7 : Int32)), (.ref b68), (.ref b68)])) rfl rfl (hb hby at_208)
  have NF92 := Fr.snoc X92 NF89 gn_b68
  have OL92 : Old Z n0 h92 := OL89.wr W92 gn_b68
  have KK92 : Keep h0 h92 [] := KK89.wr W92 (Or.inr sz_b68)
  have V92 : Arv Z h92 b68 k68 (.object "com/example/dongl/dongl/core/ErrorCode") (22 : Int32) [(.ref (A 0)), (.ref (A 1)), (.ref (A 2)), (.ref (A 20)), (.ref (A 4)), (.ref (A 19)), (.ref (A 6)), (.ref (A 7))] .null := Arv.set Ar91 q91 Sz91 Nn91 Hh91 Gg91 rfl W92 7 (by decide) (by decide : 7 < 8)
  obtain ⟨T93, X93, e93, st93⟩ := getS2 X92 hx hZ hown (host := "") (Or.inl (hw _ (List.mem_of_getElem? (i := 44) rfl))) Via.refl e92 (EN.2.2.2.2.2.1.1.ext OL92.2) (g := (mkF m 212 #[.val (.int p1), .val (.ref b1), .unset, .unset, .unset, .unset] [(.int (8 : Int32)), (.ref b68), (.ref b68)])) rfl (hb hby at_212)
  obtain ⟨cl94, Ar94, q94, Sz94, Nn94, Hh94, Gg94⟩ := (id (Arv.pad V92 (pad_rep [(.ref (A 0)), (.ref (A 1)), (.ref (A 2)), (.ref (A 20)), (.ref (A 4)), (.ref (A 19)), (.ref (A 6)), (.ref (A 7))] .null 1)))
  have hin94 : ¬ ((8 : Int32) < 0 ∨ cl94.slots.size ≤ ((8 : Int32)).toNatClampNeg) := inb_of Sz94 ⟨by decide, by decide⟩
  obtain ⟨T95, h95, X95, e95, W95, st95⟩ := stR X93 hx hZ e93 Ar94 (j := (8 : Int32)) hin94 rfl (Sto.ofV Ar94 q94 O68 (Ins.self (EN.2.2.2.2.2.1.2.1.ext OL92.2))) (g := (mkF m 215 #[.val (.int p1), .val (.ref b1), .unset, .unset, .unset, .unset] [(.ref (A 20)), (.int (8 : Int32)), (.ref b68), (.ref b68)])) rfl rfl (hb hby at_215)
  have NF95 := Fr.snoc X95 NF92 gn_b68
  have OL95 : Old Z n0 h95 := OL92.wr W95 gn_b68
  have KK95 : Keep h0 h95 [] := KK92.wr W95 (Or.inr sz_b68)
  have V95 : Arv Z h95 b68 k68 (.object "com/example/dongl/dongl/core/ErrorCode") (22 : Int32) [(.ref (A 0)), (.ref (A 1)), (.ref (A 2)), (.ref (A 20)), (.ref (A 4)), (.ref (A 19)), (.ref (A 6)), (.ref (A 7)), (.ref (A 20))] .null := Arv.set Ar94 q94 Sz94 Nn94 Hh94 Gg94 rfl W95 8 (by decide) (by decide : 8 < 9)
  obtain ⟨T96, X96, e96, st96⟩ := getS2 X95 hx hZ hown (host := "") (Or.inl (hw _ (List.mem_of_getElem? (i := 42) rfl))) Via.refl e95 (EN.2.2.2.2.1.2.2.2.2.2.2.1.ext OL95.2) (g := (mkF m 219 #[.val (.int p1), .val (.ref b1), .unset, .unset, .unset, .unset] [(.int (9 : Int32)), (.ref b68), (.ref b68)])) rfl (hb hby at_219)
  obtain ⟨cl97, Ar97, q97, Sz97, Nn97, Hh97, Gg97⟩ := (id (Arv.pad V95 (pad_rep [(.ref (A 0)), (.ref (A 1)), (.ref (A 2)), (.ref (A 20)), (.ref (A 4)), (.ref (A 19)), (.ref (A 6)), (.ref (A 7)), (.ref (A 20))] .null 1)))
  have hin97 : ¬ ((9 : Int32) < 0 ∨ cl97.slots.size ≤ ((9 : Int32)).toNatClampNeg) := inb_of Sz97 ⟨by decide, by decide⟩
  obtain ⟨T98, h98, X98, e98, W98, st98⟩ := stR X96 hx hZ e96 Ar97 (j := (9 : Int32)) hin97 rfl (Sto.ofV Ar97 q97 O68 (Ins.self (EN.2.2.2.2.1.2.2.2.2.2.2.2.1.ext OL95.2))) (g := (mkF m 222 #[.val (.int p1), .val (.ref b1), .unset, .unset, .unset, .unset] [(.ref (A 19)), (.int (9 : Int32)), (.ref b68), (.ref b68)])) rfl rfl (hb hby at_222)
  have NF98 := Fr.snoc X98 NF95 gn_b68
  have OL98 : Old Z n0 h98 := OL95.wr W98 gn_b68
  have KK98 : Keep h0 h98 [] := KK95.wr W98 (Or.inr sz_b68)
  have V98 : Arv Z h98 b68 k68 (.object "com/example/dongl/dongl/core/ErrorCode") (22 : Int32) [(.ref (A 0)), (.ref (A 1)), (.ref (A 2)), (.ref (A 20)), (.ref (A 4)), (.ref (A 19)), (.ref (A 6)), (.ref (A 7)), (.ref (A 20)), (.ref (A 19))] .null := Arv.set Ar97 q97 Sz97 Nn97 Hh97 Gg97 rfl W98 9 (by decide) (by decide : 9 < 10)
  obtain ⟨T99, X99, e99, st99⟩ := getS2 X98 hx hZ hown (host := "") (Or.inl (hw _ (List.mem_of_getElem? (i := 24) rfl))) Via.refl e98 (EN.2.2.1.2.2.2.2.1.ext OL98.2) (g := (mkF m 226 #[.val (.int p1), .val (.ref b1), .unset, .unset, .unset, .unset] [(.int (10 : Int32)), (.ref b68), (.ref b68)])) rfl (hb hby at_226)
  obtain ⟨cl100, Ar100, q100, Sz100, Nn100, Hh100, Gg100⟩ := (id (Arv.pad V98 (pad_rep [(.ref (A 0)), (.ref (A 1)), (.ref (A 2)), (.ref (A 20)), (.ref (A 4)), (.ref (A 19)), (.ref (A 6)), (.ref (A 7)), (.ref (A 20)), (.ref (A 19))] .null 1)))
  have hin100 : ¬ ((10 : Int32) < 0 ∨ cl100.slots.size ≤ ((10 : Int32)).toNatClampNeg) := inb_of Sz100 ⟨by decide, by decide⟩
  obtain ⟨T101, h101, X101, e101, W101, st101⟩ := stR X99 hx hZ e99 Ar100 (j := (10 : Int32)) hin100 rfl (Sto.ofV Ar100 q100 O68 (Ins.self (EN.2.2.1.2.2.2.2.2.1.ext OL98.2))) (g := (mkF m 229 #[.val (.int p1), .val (.ref b1), .unset, .unset, .unset, .unset] [(.ref (A 10)), (.int (10 : Int32)), (.ref b68), (.ref b68)])) rfl rfl (hb hby at_229)
  have NF101 := Fr.snoc X101 NF98 gn_b68
  have OL101 : Old Z n0 h101 := OL98.wr W101 gn_b68
  have KK101 : Keep h0 h101 [] := KK98.wr W101 (Or.inr sz_b68)
  have V101 : Arv Z h101 b68 k68 (.object "com/example/dongl/dongl/core/ErrorCode") (22 : Int32) [(.ref (A 0)), (.ref (A 1)), (.ref (A 2)), (.ref (A 20)), (.ref (A 4)), (.ref (A 19)), (.ref (A 6)), (.ref (A 7)), (.ref (A 20)), (.ref (A 19)), (.ref (A 10))] .null := Arv.set Ar100 q100 Sz100 Nn100 Hh100 Gg100 rfl W101 10 (by decide) (by decide : 10 < 11)
  obtain ⟨T102, X102, e102, st102⟩ := getS2 X101 hx hZ hown (host := "") (Or.inl (hw _ (List.mem_of_getElem? (i := 42) rfl))) Via.refl e101 (EN.2.2.2.2.1.2.2.2.2.2.2.1.ext OL101.2) (g := (mkF m 233 #[.val (.int p1), .val (.ref b1), .unset, .unset, .unset, .unset] [(.int (11 : Int32)), (.ref b68), (.ref b68)])) rfl (hb hby at_233)
  obtain ⟨cl103, Ar103, q103, Sz103, Nn103, Hh103, Gg103⟩ := (id (Arv.pad V101 (pad_rep [(.ref (A 0)), (.ref (A 1)), (.ref (A 2)), (.ref (A 20)), (.ref (A 4)), (.ref (A 19)), (.ref (A 6)), (.ref (A 7)), (.ref (A 20)), (.ref (A 19)), (.ref (A 10))] .null 1)))
  have hin103 : ¬ ((11 : Int32) < 0 ∨ cl103.slots.size ≤ ((11 : Int32)).toNatClampNeg) := inb_of Sz103 ⟨by decide, by decide⟩
  obtain ⟨T104, h104, X104, e104, W104, st104⟩ := stR X102 hx hZ e102 Ar103 (j := (11 : Int32)) hin103 rfl (Sto.ofV Ar103 q103 O68 (Ins.self (EN.2.2.2.2.1.2.2.2.2.2.2.2.1.ext OL101.2))) (g := (mkF m 236 #[.val (.int p1), .val (.ref b1), .unset, .unset, .unset, .unset] [(.ref (A 19)), (.int (11 : Int32)), (.ref b68), (.ref b68)])) rfl rfl (hb hby at_236)
  have NF104 := Fr.snoc X104 NF101 gn_b68
  have OL104 : Old Z n0 h104 := OL101.wr W104 gn_b68
  have KK104 : Keep h0 h104 [] := KK101.wr W104 (Or.inr sz_b68)
  have V104 : Arv Z h104 b68 k68 (.object "com/example/dongl/dongl/core/ErrorCode") (22 : Int32) [(.ref (A 0)), (.ref (A 1)), (.ref (A 2)), (.ref (A 20)), (.ref (A 4)), (.ref (A 19)), (.ref (A 6)), (.ref (A 7)), (.ref (A 20)), (.ref (A 19)), (.ref (A 10)), (.ref (A 19))] .null := Arv.set Ar103 q103 Sz103 Nn103 Hh103 Gg103 rfl W104 11 (by decide) (by decide : 11 < 12)
  obtain ⟨T105, X105, e105, st105⟩ := getS2 X104 hx hZ hown (host := "") (Or.inl (hw _ (List.mem_of_getElem? (i := 44) rfl))) Via.refl e104 (EN.2.2.2.2.2.1.1.ext OL104.2) (g := (mkF m 240 #[.val (.int p1), .val (.ref b1), .unset, .unset, .unset, .unset] [(.int (12 : Int32)), (.ref b68), (.ref b68)])) rfl (hb hby at_240)
  obtain ⟨cl106, Ar106, q106, Sz106, Nn106, Hh106, Gg106⟩ := (id (Arv.pad V104 (pad_rep [(.ref (A 0)), (.ref (A 1)), (.ref (A 2)), (.ref (A 20)), (.ref (A 4)), (.ref (A 19)), (.ref (A 6)), (.ref (A 7)), (.ref (A 20)), (.ref (A 19)), (.ref (A 10)), (.ref (A 19))] .null 1)))
  have hin106 : ¬ ((12 : Int32) < 0 ∨ cl106.slots.size ≤ ((12 : Int32)).toNatClampNeg) := inb_of Sz106 ⟨by decide, by decide⟩
  obtain ⟨T107, h107, X107, e107, W107, st107⟩ := stR X105 hx hZ e105 Ar106 (j := (12 : Int32)) hin106 rfl (Sto.ofV Ar106 q106 O68 (Ins.self (EN.2.2.2.2.2.1.2.1.ext OL104.2))) (g := (mkF m 243 #[.val (.int p1), .val (.ref b1), .unset, .unset, .unset, .unset] [(.ref (A 20)), (.int (12 : Int32)), (.ref b68), (.ref b68)])) rfl rfl (hb hby at_243)
  have NF107 := Fr.snoc X107 NF104 gn_b68
  have OL107 : Old Z n0 h107 := OL104.wr W107 gn_b68
  have KK107 : Keep h0 h107 [] := KK104.wr W107 (Or.inr sz_b68)
  have V107 : Arv Z h107 b68 k68 (.object "com/example/dongl/dongl/core/ErrorCode") (22 : Int32) [(.ref (A 0)), (.ref (A 1)), (.ref (A 2)), (.ref (A 20)), (.ref (A 4)), (.ref (A 19)), (.ref (A 6)), (.ref (A 7)), (.ref (A 20)), (.ref (A 19)), (.ref (A 10)), (.ref (A 19)), (.ref (A 20))] .null := Arv.set Ar106 q106 Sz106 Nn106 Hh106 Gg106 rfl W107 12 (by decide) (by decide : 12 < 13)
  obtain ⟨T108, X108, e108, st108⟩ := getS2 X107 hx hZ hown (host := "") (Or.inl (hw _ (List.mem_of_getElem? (i := 42) rfl))) Via.refl e107 (EN.2.2.2.2.1.2.2.2.2.2.2.1.ext OL107.2) (g := (mkF m 247 #[.val (.int p1), .val (.ref b1), .unset, .unset, .unset, .unset] [(.int (13 : Int32)), (.ref b68), (.ref b68)])) rfl (hb hby at_247)
  obtain ⟨cl109, Ar109, q109, Sz109, Nn109, Hh109, Gg109⟩ := (id (Arv.pad V107 (pad_rep [(.ref (A 0)), (.ref (A 1)), (.ref (A 2)), (.ref (A 20)), (.ref (A 4)), (.ref (A 19)), (.ref (A 6)), (.ref (A 7)), (.ref (A 20)), (.ref (A 19)), (.ref (A 10)), (.ref (A 19)), (.ref (A 20))] .null 1)))
  have hin109 : ¬ ((13 : Int32) < 0 ∨ cl109.slots.size ≤ ((13 : Int32)).toNatClampNeg) := inb_of Sz109 ⟨by decide, by decide⟩
  obtain ⟨T110, h110, X110, e110, W110, st110⟩ := stR X108 hx hZ e108 Ar109 (j := (13 : Int32)) hin109 rfl (Sto.ofV Ar109 q109 O68 (Ins.self (EN.2.2.2.2.1.2.2.2.2.2.2.2.1.ext OL107.2))) (g := (mkF m 250 #[.val (.int p1), .val (.ref b1), .unset, .unset, .unset, .unset] [(.ref (A 19)), (.int (13 : Int32)), (.ref b68), (.ref b68)])) rfl rfl (hb hby at_250)
  have NF110 := Fr.snoc X110 NF107 gn_b68
  have OL110 : Old Z n0 h110 := OL107.wr W110 gn_b68
  have KK110 : Keep h0 h110 [] := KK107.wr W110 (Or.inr sz_b68)
  have V110 : Arv Z h110 b68 k68 (.object "com/example/dongl/dongl/core/ErrorCode") (22 : Int32) [(.ref (A 0)), (.ref (A 1)), (.ref (A 2)), (.ref (A 20)), (.ref (A 4)), (.ref (A 19)), (.ref (A 6)), (.ref (A 7)), (.ref (A 20)), (.ref (A 19)), (.ref (A 10)), (.ref (A 19)), (.ref (A 20)), (.ref (A 19))] .null := Arv.set Ar109 q109 Sz109 Nn109 Hh109 Gg109 rfl W110 13 (by decide) (by decide : 13 < 14)
  obtain ⟨T111, X111, e111, st111⟩ := getS2 X110 hx hZ hown (host := "") (Or.inl (hw _ (List.mem_of_getElem? (i := 42) rfl))) Via.refl e110 (EN.2.2.2.2.1.2.2.2.2.2.2.1.ext OL110.2) (g := (mkF m 254 #[.val (.int p1), .val (.ref b1), .unset, .unset, .unset, .unset] [(.int (14 : Int32)), (.ref b68), (.ref b68)])) rfl (hb hby at_254)
  obtain ⟨cl112, Ar112, q112, Sz112, Nn112, Hh112, Gg112⟩ := (id (Arv.pad V110 (pad_rep [(.ref (A 0)), (.ref (A 1)), (.ref (A 2)), (.ref (A 20)), (.ref (A 4)), (.ref (A 19)), (.ref (A 6)), (.ref (A 7)), (.ref (A 20)), (.ref (A 19)), (.ref (A 10)), (.ref (A 19)), (.ref (A 20)), (.ref (A 19))] .null 1)))
  have hin112 : ¬ ((14 : Int32) < 0 ∨ cl112.slots.size ≤ ((14 : Int32)).toNatClampNeg) := inb_of Sz112 ⟨by decide, by decide⟩
  obtain ⟨T113, h113, X113, e113, W113, st113⟩ := stR X111 hx hZ e111 Ar112 (j := (14 : Int32)) hin112 rfl (Sto.ofV Ar112 q112 O68 (Ins.self (EN.2.2.2.2.1.2.2.2.2.2.2.2.1.ext OL110.2))) (g := (mkF m 257 #[.val (.int p1), .val (.ref b1), .unset, .unset, .unset, .unset] [(.ref (A 19)), (.int (14 : Int32)), (.ref b68), (.ref b68)])) rfl rfl (hb hby at_257)
  have NF113 := Fr.snoc X113 NF110 gn_b68
  have OL113 : Old Z n0 h113 := OL110.wr W113 gn_b68
  have KK113 : Keep h0 h113 [] := KK110.wr W113 (Or.inr sz_b68)
  have V113 : Arv Z h113 b68 k68 (.object "com/example/dongl/dongl/core/ErrorCode") (22 : Int32) [(.ref (A 0)), (.ref (A 1)), (.ref (A 2)), (.ref (A 20)), (.ref (A 4)), (.ref (A 19)), (.ref (A 6)), (.ref (A 7)), (.ref (A 20)), (.ref (A 19)), (.ref (A 10)), (.ref (A 19)), (.ref (A 20)), (.ref (A 19)), (.ref (A 19))] .null := Arv.set Ar112 q112 Sz112 Nn112 Hh112 Gg112 rfl W113 14 (by decide) (by decide : 14 < 15)
  obtain ⟨T114, X114, e114, st114⟩ := getS2 X113 hx hZ hown (host := "") (Or.inl (hw _ (List.mem_of_getElem? (i := 40) rfl))) Via.refl e113 (EN.2.2.2.2.1.2.2.2.2.1.ext OL113.2) (g := (mkF m 261 #[.val (.int p1), .val (.ref b1), .unset, .unset, .unset, .unset] [(.int (15 : Int32)), (.ref b68), (.ref b68)])) rfl (hb hby at_261)
  obtain ⟨cl115, Ar115, q115, Sz115, Nn115, Hh115, Gg115⟩ := (id (Arv.pad V113 (pad_rep [(.ref (A 0)), (.ref (A 1)), (.ref (A 2)), (.ref (A 20)), (.ref (A 4)), (.ref (A 19)), (.ref (A 6)), (.ref (A 7)), (.ref (A 20)), (.ref (A 19)), (.ref (A 10)), (.ref (A 19)), (.ref (A 20)), (.ref (A 19)), (.ref (A 19))] .null 1)))
  have hin115 : ¬ ((15 : Int32) < 0 ∨ cl115.slots.size ≤ ((15 : Int32)).toNatClampNeg) := inb_of Sz115 ⟨by decide, by decide⟩
  obtain ⟨T116, h116, X116, e116, W116, st116⟩ := stR X114 hx hZ e114 Ar115 (j := (15 : Int32)) hin115 rfl (Sto.ofV Ar115 q115 O68 (Ins.self (EN.2.2.2.2.1.2.2.2.2.2.1.ext OL113.2))) (g := (mkF m 264 #[.val (.int p1), .val (.ref b1), .unset, .unset, .unset, .unset] [(.ref (A 18)), (.int (15 : Int32)), (.ref b68), (.ref b68)])) rfl rfl (hb hby at_264)
  have NF116 := Fr.snoc X116 NF113 gn_b68
  have OL116 : Old Z n0 h116 := OL113.wr W116 gn_b68
  have KK116 : Keep h0 h116 [] := KK113.wr W116 (Or.inr sz_b68)
  have V116 : Arv Z h116 b68 k68 (.object "com/example/dongl/dongl/core/ErrorCode") (22 : Int32) [(.ref (A 0)), (.ref (A 1)), (.ref (A 2)), (.ref (A 20)), (.ref (A 4)), (.ref (A 19)), (.ref (A 6)), (.ref (A 7)), (.ref (A 20)), (.ref (A 19)), (.ref (A 10)), (.ref (A 19)), (.ref (A 20)), (.ref (A 19)), (.ref (A 19)), (.ref (A 18))] .null := Arv.set Ar115 q115 Sz115 Nn115 Hh115 Gg115 rfl W116 15 (by decide) (by decide : 15 < 16)
  obtain ⟨T117, X117, e117, st117⟩ := getS2 X116 hx hZ hown (host := "") (Or.inl (hw _ (List.mem_of_getElem? (i := 42) rfl))) Via.refl e116 (EN.2.2.2.2.1.2.2.2.2.2.2.1.ext OL116.2) (g := (mkF m 268 #[.val (.int p1), .val (.ref b1), .unset, .unset, .unset, .unset] [(.int (16 : Int32)), (.ref b68), (.ref b68)])) rfl (hb hby at_268)
  obtain ⟨cl118, Ar118, q118, Sz118, Nn118, Hh118, Gg118⟩ := (id (Arv.pad V116 (pad_rep [(.ref (A 0)), (.ref (A 1)), (.ref (A 2)), (.ref (A 20)), (.ref (A 4)), (.ref (A 19)), (.ref (A 6)), (.ref (A 7)), (.ref (A 20)), (.ref (A 19)), (.ref (A 10)), (.ref (A 19)), (.ref (A 20)), (.ref (A 19)), (.ref (A 19)), (.ref (A 18))] .null 1)))
  have hin118 : ¬ ((16 : Int32) < 0 ∨ cl118.slots.size ≤ ((16 : Int32)).toNatClampNeg) := inb_of Sz118 ⟨by decide, by decide⟩
  obtain ⟨T119, h119, X119, e119, W119, st119⟩ := stR X117 hx hZ e117 Ar118 (j := (16 : Int32)) hin118 rfl (Sto.ofV Ar118 q118 O68 (Ins.self (EN.2.2.2.2.1.2.2.2.2.2.2.2.1.ext OL116.2))) (g := (mkF m 271 #[.val (.int p1), .val (.ref b1), .unset, .unset, .unset, .unset] [(.ref (A 19)), (.int (16 : Int32)), (.ref b68), (.ref b68)])) rfl rfl (hb hby at_271)
  have NF119 := Fr.snoc X119 NF116 gn_b68
  have OL119 : Old Z n0 h119 := OL116.wr W119 gn_b68
  have KK119 : Keep h0 h119 [] := KK116.wr W119 (Or.inr sz_b68)
  have V119 : Arv Z h119 b68 k68 (.object "com/example/dongl/dongl/core/ErrorCode") (22 : Int32) [(.ref (A 0)), (.ref (A 1)), (.ref (A 2)), (.ref (A 20)), (.ref (A 4)), (.ref (A 19)), (.ref (A 6)), (.ref (A 7)), (.ref (A 20)), (.ref (A 19)), (.ref (A 10)), (.ref (A 19)), (.ref (A 20)), (.ref (A 19)), (.ref (A 19)), (.ref (A 18)), (.ref (A 19))] .null := Arv.set Ar118 q118 Sz118 Nn118 Hh118 Gg118 rfl W119 16 (by decide) (by decide : 16 < 17)
  obtain ⟨T120, X120, e120, st120⟩ := getS2 X119 hx hZ hown (host := "") (Or.inl (hw _ (List.mem_of_getElem? (i := 38) rfl))) Via.refl e119 (EN.2.2.2.2.1.2.2.1.ext OL119.2) (g := (mkF m 275 #[.val (.int p1), .val (.ref b1), .unset, .unset, .unset, .unset] [(.int (17 : Int32)), (.ref b68), (.ref b68)])) rfl (hb hby at_275)
  obtain ⟨cl121, Ar121, q121, Sz121, Nn121, Hh121, Gg121⟩ := (id (Arv.pad V119 (pad_rep [(.ref (A 0)), (.ref (A 1)), (.ref (A 2)), (.ref (A 20)), (.ref (A 4)), (.ref (A 19)), (.ref (A 6)), (.ref (A 7)), (.ref (A 20)), (.ref (A 19)), (.ref (A 10)), (.ref (A 19)), (.ref (A 20)), (.ref (A 19)), (.ref (A 19)), (.ref (A 18)), (.ref (A 19))] .null 1)))
  have hin121 : ¬ ((17 : Int32) < 0 ∨ cl121.slots.size ≤ ((17 : Int32)).toNatClampNeg) := inb_of Sz121 ⟨by decide, by decide⟩
  obtain ⟨T122, h122, X122, e122, W122, st122⟩ := stR X120 hx hZ e120 Ar121 (j := (17 : Int32)) hin121 rfl (Sto.ofV Ar121 q121 O68 (Ins.self (EN.2.2.2.2.1.2.2.2.1.ext OL119.2))) (g := (mkF m 278 #[.val (.int p1), .val (.ref b1), .unset, .unset, .unset, .unset] [(.ref (A 17)), (.int (17 : Int32)), (.ref b68), (.ref b68)])) rfl rfl (hb hby at_278)
  have NF122 := Fr.snoc X122 NF119 gn_b68
  have OL122 : Old Z n0 h122 := OL119.wr W122 gn_b68
  have KK122 : Keep h0 h122 [] := KK119.wr W122 (Or.inr sz_b68)
  have V122 : Arv Z h122 b68 k68 (.object "com/example/dongl/dongl/core/ErrorCode") (22 : Int32) [(.ref (A 0)), (.ref (A 1)), (.ref (A 2)), (.ref (A 20)), (.ref (A 4)), (.ref (A 19)), (.ref (A 6)), (.ref (A 7)), (.ref (A 20)), (.ref (A 19)), (.ref (A 10)), (.ref (A 19)), (.ref (A 20)), (.ref (A 19)), (.ref (A 19)), (.ref (A 18)), (.ref (A 19)), (.ref (A 17))] .null := Arv.set Ar121 q121 Sz121 Nn121 Hh121 Gg121 rfl W122 17 (by decide) (by decide : 17 < 18)
  obtain ⟨T123, X123, e123, st123⟩ := getS2 X122 hx hZ hown (host := "") (Or.inl (hw _ (List.mem_of_getElem? (i := 40) rfl))) Via.refl e122 (EN.2.2.2.2.1.2.2.2.2.1.ext OL122.2) (g := (mkF m 282 #[.val (.int p1), .val (.ref b1), .unset, .unset, .unset, .unset] [(.int (18 : Int32)), (.ref b68), (.ref b68)])) rfl (hb hby at_282)
  obtain ⟨cl124, Ar124, q124, Sz124, Nn124, Hh124, Gg124⟩ := (id (Arv.pad V122 (pad_rep [(.ref (A 0)), (.ref (A 1)), (.ref (A 2)), (.ref (A 20)), (.ref (A 4)), (.ref (A 19)), (.ref (A 6)), (.ref (A 7)), (.ref (A 20)), (.ref (A 19)), (.ref (A 10)), (.ref (A 19)), (.ref (A 20)), (.ref (A 19)), (.ref (A 19)), (.ref (A 18)), (.ref (A 19)), (.ref (A 17))] .null 1)))
  have hin124 : ¬ ((18 : Int32) < 0 ∨ cl124.slots.size ≤ ((18 : Int32)).toNatClampNeg) := inb_of Sz124 ⟨by decide, by decide⟩
  obtain ⟨T125, h125, X125, e125, W125, st125⟩ := stR X123 hx hZ e123 Ar124 (j := (18 : Int32)) hin124 rfl (Sto.ofV Ar124 q124 O68 (Ins.self (EN.2.2.2.2.1.2.2.2.2.2.1.ext OL122.2))) (g := (mkF m 285 #[.val (.int p1), .val (.ref b1), .unset, .unset, .unset, .unset] [(.ref (A 18)), (.int (18 : Int32)), (.ref b68), (.ref b68)])) rfl rfl (hb hby at_285)
  have NF125 := Fr.snoc X125 NF122 gn_b68
  have OL125 : Old Z n0 h125 := OL122.wr W125 gn_b68
  have KK125 : Keep h0 h125 [] := KK122.wr W125 (Or.inr sz_b68)
  have V125 : Arv Z h125 b68 k68 (.object "com/example/dongl/dongl/core/ErrorCode") (22 : Int32) [(.ref (A 0)), (.ref (A 1)), (.ref (A 2)), (.ref (A 20)), (.ref (A 4)), (.ref (A 19)), (.ref (A 6)), (.ref (A 7)), (.ref (A 20)), (.ref (A 19)), (.ref (A 10)), (.ref (A 19)), (.ref (A 20)), (.ref (A 19)), (.ref (A 19)), (.ref (A 18)), (.ref (A 19)), (.ref (A 17)), (.ref (A 18))] .null := Arv.set Ar124 q124 Sz124 Nn124 Hh124 Gg124 rfl W125 18 (by decide) (by decide : 18 < 19)
  obtain ⟨T126, X126, e126, st126⟩ := getS2 X125 hx hZ hown (host := "") (Or.inl (hw _ (List.mem_of_getElem? (i := 42) rfl))) Via.refl e125 (EN.2.2.2.2.1.2.2.2.2.2.2.1.ext OL125.2) (g := (mkF m 289 #[.val (.int p1), .val (.ref b1), .unset, .unset, .unset, .unset] [(.int (19 : Int32)), (.ref b68), (.ref b68)])) rfl (hb hby at_289)
  obtain ⟨cl127, Ar127, q127, Sz127, Nn127, Hh127, Gg127⟩ := (id (Arv.pad V125 (pad_rep [(.ref (A 0)), (.ref (A 1)), (.ref (A 2)), (.ref (A 20)), (.ref (A 4)), (.ref (A 19)), (.ref (A 6)), (.ref (A 7)), (.ref (A 20)), (.ref (A 19)), (.ref (A 10)), (.ref (A 19)), (.ref (A 20)), (.ref (A 19)), (.ref (A 19)), (.ref (A 18)), (.ref (A 19)), (.ref (A 17)), (.ref (A 18))] .null 1)))
  have hin127 : ¬ ((19 : Int32) < 0 ∨ cl127.slots.size ≤ ((19 : Int32)).toNatClampNeg) := inb_of Sz127 ⟨by decide, by decide⟩
  obtain ⟨T128, h128, X128, e128, W128, st128⟩ := stR X126 hx hZ e126 Ar127 (j := (19 : Int32)) hin127 rfl (Sto.ofV Ar127 q127 O68 (Ins.self (EN.2.2.2.2.1.2.2.2.2.2.2.2.1.ext OL125.2))) (g := (mkF m 292 #[.val (.int p1), .val (.ref b1), .unset, .unset, .unset, .unset] [(.ref (A 19)), (.int (19 : Int32)), (.ref b68), (.ref b68)])) rfl rfl (hb hby at_292)
  have NF128 := Fr.snoc X128 NF125 gn_b68
  have OL128 : Old Z n0 h128 := OL125.wr W128 gn_b68
  have KK128 : Keep h0 h128 [] := KK125.wr W128 (Or.inr sz_b68)
  have V128 : Arv Z h128 b68 k68 (.object "com/example/dongl/dongl/core/ErrorCode") (22 : Int32) [(.ref (A 0)), (.ref (A 1)), (.ref (A 2)), (.ref (A 20)), (.ref (A 4)), (.ref (A 19)), (.ref (A 6)), (.ref (A 7)), (.ref (A 20)), (.ref (A 19)), (.ref (A 10)), (.ref (A 19)), (.ref (A 20)), (.ref (A 19)), (.ref (A 19)), (.ref (A 18)), (.ref (A 19)), (.ref (A 17)), (.ref (A 18)), (.ref (A 19))] .null := Arv.set Ar127 q127 Sz127 Nn127 Hh127 Gg127 rfl W128 19 (by decide) (by decide : 19 < 20)
  obtain ⟨T129, X129, e129, st129⟩ := getS2 X128 hx hZ hown (host := "") (Or.inl (hw _ (List.mem_of_getElem? (i := 44) rfl))) Via.refl e128 (EN.2.2.2.2.2.1.1.ext OL128.2) (g := (mkF m 296 #[.val (.int p1), .val (.ref b1), .unset, .unset, .unset, .unset] [(.int (20 : Int32)), (.ref b68), (.ref b68)])) rfl (hb hby at_296)
  obtain ⟨cl130, Ar130, q130, Sz130, Nn130, Hh130, Gg130⟩ := (id (Arv.pad V128 (pad_rep [(.ref (A 0)), (.ref (A 1)), (.ref (A 2)), (.ref (A 20)), (.ref (A 4)), (.ref (A 19)), (.ref (A 6)), (.ref (A 7)), (.ref (A 20)), (.ref (A 19)), (.ref (A 10)), (.ref (A 19)), (.ref (A 20)), (.ref (A 19)), (.ref (A 19)), (.ref (A 18)), (.ref (A 19)), (.ref (A 17)), (.ref (A 18)), (.ref (A 19))] .null 1)))
  have hin130 : ¬ ((20 : Int32) < 0 ∨ cl130.slots.size ≤ ((20 : Int32)).toNatClampNeg) := inb_of Sz130 ⟨by decide, by decide⟩
  obtain ⟨T131, h131, X131, e131, W131, st131⟩ := stR X129 hx hZ e129 Ar130 (j := (20 : Int32)) hin130 rfl (Sto.ofV Ar130 q130 O68 (Ins.self (EN.2.2.2.2.2.1.2.1.ext OL128.2))) (g := (mkF m 299 #[.val (.int p1), .val (.ref b1), .unset, .unset, .unset, .unset] [(.ref (A 20)), (.int (20 : Int32)), (.ref b68), (.ref b68)])) rfl rfl (hb hby at_299)
  have NF131 := Fr.snoc X131 NF128 gn_b68
  have OL131 : Old Z n0 h131 := OL128.wr W131 gn_b68
  have KK131 : Keep h0 h131 [] := KK128.wr W131 (Or.inr sz_b68)
  have V131 : Arv Z h131 b68 k68 (.object "com/example/dongl/dongl/core/ErrorCode") (22 : Int32) [(.ref (A 0)), (.ref (A 1)), (.ref (A 2)), (.ref (A 20)), (.ref (A 4)), (.ref (A 19)), (.ref (A 6)), (.ref (A 7)), (.ref (A 20)), (.ref (A 19)), (.ref (A 10)), (.ref (A 19)), (.ref (A 20)), (.ref (A 19)), (.ref (A 19)), (.ref (A 18)), (.ref (A 19)), (.ref (A 17)), (.ref (A 18)), (.ref (A 19)), (.ref (A 20))] .null := Arv.set Ar130 q130 Sz130 Nn130 Hh130 Gg130 rfl W131 20 (by decide) (by decide : 20 < 21)
  obtain ⟨T132, X132, e132, st132⟩ := getS2 X131 hx hZ hown (host := "") (Or.inl (hw _ (List.mem_of_getElem? (i := 46) rfl))) Via.refl e131 (EN.2.2.2.2.2.1.2.2.1.ext OL131.2) (g := (mkF m 303 #[.val (.int p1), .val (.ref b1), .unset, .unset, .unset, .unset] [(.int (21 : Int32)), (.ref b68), (.ref b68)])) rfl (hb hby at_303)
  obtain ⟨cl133, Ar133, q133, Sz133, Nn133, Hh133, Gg133⟩ := (id (Arv.pad V131 (pad_rep [(.ref (A 0)), (.ref (A 1)), (.ref (A 2)), (.ref (A 20)), (.ref (A 4)), (.ref (A 19)), (.ref (A 6)), (.ref (A 7)), (.ref (A 20)), (.ref (A 19)), (.ref (A 10)), (.ref (A 19)), (.ref (A 20)), (.ref (A 19)), (.ref (A 19)), (.ref (A 18)), (.ref (A 19)), (.ref (A 17)), (.ref (A 18)), (.ref (A 19)), (.ref (A 20))] .null 1)))
  have hin133 : ¬ ((21 : Int32) < 0 ∨ cl133.slots.size ≤ ((21 : Int32)).toNatClampNeg) := inb_of Sz133 ⟨by decide, by decide⟩
  obtain ⟨T134, h134, X134, e134, W134, st134⟩ := stR X132 hx hZ e132 Ar133 (j := (21 : Int32)) hin133 rfl (Sto.ofV Ar133 q133 O68 (Ins.self (EN.2.2.2.2.2.1.2.2.2.1.ext OL131.2))) (g := (mkF m 306 #[.val (.int p1), .val (.ref b1), .unset, .unset, .unset, .unset] [(.ref (A 21)), (.int (21 : Int32)), (.ref b68), (.ref b68)])) rfl rfl (hb hby at_306)
  have NF134 := Fr.snoc X134 NF131 gn_b68
  have OL134 : Old Z n0 h134 := OL131.wr W134 gn_b68
  have KK134 : Keep h0 h134 [] := KK131.wr W134 (Or.inr sz_b68)
  have V134 : Arv Z h134 b68 k68 (.object "com/example/dongl/dongl/core/ErrorCode") (22 : Int32) [(.ref (A 0)), (.ref (A 1)), (.ref (A 2)), (.ref (A 20)), (.ref (A 4)), (.ref (A 19)), (.ref (A 6)), (.ref (A 7)), (.ref (A 20)), (.ref (A 19)), (.ref (A 10)), (.ref (A 19)), (.ref (A 20)), (.ref (A 19)), (.ref (A 19)), (.ref (A 18)), (.ref (A 19)), (.ref (A 17)), (.ref (A 18)), (.ref (A 19)), (.ref (A 20)), (.ref (A 21))] .null := Arv.set Ar133 q133 Sz133 Nn133 Hh133 Gg133 rfl W134 21 (by decide) (by decide : 21 < 22)
  have pre135 : ∀ t, Steps p.tables e below (T134.setTop (mkF m 315 #[.val (.int p1), .val (.ref b1), .val (.ref b68), .unset, .unset, .unset] [(.int ((p1 &&& (2147483647 : Int32)) % (22 : Int32)))])) t → Steps p.tables e below (s₁.setTop (entryFrame m #[(.int p1)] maxLocals)) t := fun t k => pre0 t (by
    show Steps p.tables e below (s₁.setTop (mkF m 0 #[.val (.int p1), .unset, .unset, .unset, .unset, .unset] [])) _
    refine XS.bipush X0.here hx rfl (hb hby at_0) ?_
    show Steps p.tables e below (s₁.setTop (mkF m 2 #[.val (.int p1), .unset, .unset, .unset, .unset, .unset] [(.int (22 : Int32))])) _
    refine st1 _ ?_
    show Steps p.tables e below (T1.setTop (mkF m 5 #[.val (.int p1), .unset, .unset, .unset, .unset, .unset] [(.ref b1)])) _
    refine XS.dup X1.here hx rfl (hb hby at_5) rfl rfl ?_
    show Steps p.tables e below (T1.setTop (mkF m 6 #[.val (.int p1), .unset, .unset, .unset, .unset, .unset] [(.ref b1), (.ref b1)])) _
    refine XS.iconst X1.here hx rfl (hb hby at_6) ?_
    show Steps p.tables e below (T1.setTop (mkF m 7 #[.val (.int p1), .unset, .unset, .unset, .unset, .unset] [(.int (0 : Int32)), (.ref b1), (.ref b1)])) _
    refine st2 _ ?_
    show Steps p.tables e below (T2.setTop (mkF m 10 #[.val (.int p1), .unset, .unset, .unset, .unset, .unset] [(.ref (A 0)), (.int (0 : Int32)), (.ref b1), (.ref b1)])) _
    refine st4 _ ?_
    show Steps p.tables e below (T4.setTop (mkF m 11 #[.val (.int p1), .unset, .unset, .unset, .unset, .unset] [(.ref b1)])) _
    refine XS.dup X4.here hx rfl (hb hby at_11) rfl rfl ?_
    show Steps p.tables e below (T4.setTop (mkF m 12 #[.val (.int p1), .unset, .unset, .unset, .unset, .unset] [(.ref b1), (.ref b1)])) _
    refine XS.iconst X4.here hx rfl (hb hby at_12) ?_
    show Steps p.tables e below (T4.setTop (mkF m 13 #[.val (.int p1), .unset, .unset, .unset, .unset, .unset] [(.int (1 : Int32)), (.ref b1), (.ref b1)])) _
    refine st5 _ ?_
    show Steps p.tables e below (T5.setTop (mkF m 16 #[.val (.int p1), .unset, .unset, .unset, .unset, .unset] [(.ref (A 1)), (.int (1 : Int32)), (.ref b1), (.ref b1)])) _
    refine st7 _ ?_
    show Steps p.tables e below (T7.setTop (mkF m 17 #[.val (.int p1), .unset, .unset, .unset, .unset, .unset] [(.ref b1)])) _
    refine XS.dup X7.here hx rfl (hb hby at_17) rfl rfl ?_
    show Steps p.tables e below (T7.setTop (mkF m 18 #[.val (.int p1), .unset, .unset, .unset, .unset, .unset] [(.ref b1), (.ref b1)])) _
    refine XS.iconst X7.here hx rfl (hb hby at_18) ?_
    show Steps p.tables e below (T7.setTop (mkF m 19 #[.val (.int p1), .unset, .unset, .unset, .unset, .unset] [(.int (2 : Int32)), (.ref b1), (.ref b1)])) _
    refine st8 _ ?_
    show Steps p.tables e below (T8.setTop (mkF m 22 #[.val (.int p1), .unset, .unset, .unset, .unset, .unset] [(.ref (A 2)), (.int (2 : Int32)), (.ref b1), (.ref b1)])) _
    refine st10 _ ?_
    show Steps p.tables e below (T10.setTop (mkF m 23 #[.val (.int p1), .unset, .unset, .unset, .unset, .unset] [(.ref b1)])) _
    refine XS.dup X10.here hx rfl (hb hby at_23) rfl rfl ?_
    show Steps p.tables e below (T10.setTop (mkF m 24 #[.val (.int p1), .unset, .unset, .unset, .unset, .unset] [(.ref b1), (.ref b1)])) _
    refine XS.iconst X10.here hx rfl (hb hby at_24) ?_
    show Steps p.tables e below (T10.setTop (mkF m 25 #[.val (.int p1), .unset, .unset, .unset, .unset, .unset] [(.int (3 : Int32)), (.ref b1), (.ref b1)])) _
    refine st11 _ ?_
    show Steps p.tables e below (T11.setTop (mkF m 28 #[.val (.int p1), .unset, .unset, .unset, .unset, .unset] [(.ref (A 3)), (.int (3 : Int32)), (.ref b1), (.ref b1)])) _
    refine st13 _ ?_
    show Steps p.tables e below (T13.setTop (mkF m 29 #[.val (.int p1), .unset, .unset, .unset, .unset, .unset] [(.ref b1)])) _
    refine XS.dup X13.here hx rfl (hb hby at_29) rfl rfl ?_
    show Steps p.tables e below (T13.setTop (mkF m 30 #[.val (.int p1), .unset, .unset, .unset, .unset, .unset] [(.ref b1), (.ref b1)])) _
    refine XS.iconst X13.here hx rfl (hb hby at_30) ?_
    show Steps p.tables e below (T13.setTop (mkF m 31 #[.val (.int p1), .unset, .unset, .unset, .unset, .unset] [(.int (4 : Int32)), (.ref b1), (.ref b1)])) _
    refine st14 _ ?_
    show Steps p.tables e below (T14.setTop (mkF m 34 #[.val (.int p1), .unset, .unset, .unset, .unset, .unset] [(.ref (A 4)), (.int (4 : Int32)), (.ref b1), (.ref b1)])) _
    refine st16 _ ?_
    show Steps p.tables e below (T16.setTop (mkF m 35 #[.val (.int p1), .unset, .unset, .unset, .unset, .unset] [(.ref b1)])) _
    refine XS.dup X16.here hx rfl (hb hby at_35) rfl rfl ?_
    show Steps p.tables e below (T16.setTop (mkF m 36 #[.val (.int p1), .unset, .unset, .unset, .unset, .unset] [(.ref b1), (.ref b1)])) _
    refine XS.iconst X16.here hx rfl (hb hby at_36) ?_
    show Steps p.tables e below (T16.setTop (mkF m 37 #[.val (.int p1), .unset, .unset, .unset, .unset, .unset] [(.int (5 : Int32)), (.ref b1), (.ref b1)])) _
    refine st17 _ ?_
    show Steps p.tables e below (T17.setTop (mkF m 40 #[.val (.int p1), .unset, .unset, .unset, .unset, .unset] [(.ref (A 5)), (.int (5 : Int32)), (.ref b1), (.ref b1)])) _
    refine st19 _ ?_
    show Steps p.tables e below (T19.setTop (mkF m 41 #[.val (.int p1), .unset, .unset, .unset, .unset, .unset] [(.ref b1)])) _
    refine XS.dup X19.here hx rfl (hb hby at_41) rfl rfl ?_
    show Steps p.tables e below (T19.setTop (mkF m 42 #[.val (.int p1), .unset, .unset, .unset, .unset, .unset] [(.ref b1), (.ref b1)])) _
    refine XS.bipush X19.here hx rfl (hb hby at_42) ?_
    show Steps p.tables e below (T19.setTop (mkF m 44 #[.val (.int p1), .unset, .unset, .unset, .unset, .unset] [(.int (6 : Int32)), (.ref b1), (.ref b1)])) _
    refine st20 _ ?_
    show Steps p.tables e below (T20.setTop (mkF m 47 #[.val (.int p1), .unset, .unset, .unset, .unset, .unset] [(.ref (A 6)), (.int (6 : Int32)), (.ref b1), (.ref b1)])) _
    refine st22 _ ?_
    show Steps p.tables e below (T22.setTop (mkF m 48 #[.val (.int p1), .unset, .unset, .unset, .unset, .unset] [(.ref b1)])) _
    refine XS.dup X22.here hx rfl (hb hby at_48) rfl rfl ?_
    show Steps p.tables e below (T22.setTop (mkF m 49 #[.val (.int p1), .unset, .unset, .unset, .unset, .unset] [(.ref b1), (.ref b1)])) _
    refine XS.bipush X22.here hx rfl (hb hby at_49) ?_
    show Steps p.tables e below (T22.setTop (mkF m 51 #[.val (.int p1), .unset, .unset, .unset, .unset, .unset] [(.int (7 : Int32)), (.ref b1), (.ref b1)])) _
    refine st23 _ ?_
    show Steps p.tables e below (T23.setTop (mkF m 54 #[.val (.int p1), .unset, .unset, .unset, .unset, .unset] [(.ref (A 7)), (.int (7 : Int32)), (.ref b1), (.ref b1)])) _
    refine st25 _ ?_
    show Steps p.tables e below (T25.setTop (mkF m 55 #[.val (.int p1), .unset, .unset, .unset, .unset, .unset] [(.ref b1)])) _
    refine XS.dup X25.here hx rfl (hb hby at_55) rfl rfl ?_
    show Steps p.tables e below (T25.setTop (mkF m 56 #[.val (.int p1), .unset, .unset, .unset, .unset, .unset] [(.ref b1), (.ref b1)])) _
    refine XS.bipush X25.here hx rfl (hb hby at_56) ?_
    show Steps p.tables e below (T25.setTop (mkF m 58 #[.val (.int p1), .unset, .unset, .unset, .unset, .unset] [(.int (8 : Int32)), (.ref b1), (.ref b1)])) _
    refine st26 _ ?_
    show Steps p.tables e below (T26.setTop (mkF m 61 #[.val (.int p1), .unset, .unset, .unset, .unset, .unset] [(.ref (A 8)), (.int (8 : Int32)), (.ref b1), (.ref b1)])) _
    refine st28 _ ?_
    show Steps p.tables e below (T28.setTop (mkF m 62 #[.val (.int p1), .unset, .unset, .unset, .unset, .unset] [(.ref b1)])) _
    refine XS.dup X28.here hx rfl (hb hby at_62) rfl rfl ?_
    show Steps p.tables e below (T28.setTop (mkF m 63 #[.val (.int p1), .unset, .unset, .unset, .unset, .unset] [(.ref b1), (.ref b1)])) _
    refine XS.bipush X28.here hx rfl (hb hby at_63) ?_
    show Steps p.tables e below (T28.setTop (mkF m 65 #[.val (.int p1), .unset, .unset, .unset, .unset, .unset] [(.int (9 : Int32)), (.ref b1), (.ref b1)])) _
    refine st29 _ ?_
    show Steps p.tables e below (T29.setTop (mkF m 68 #[.val (.int p1), .unset, .unset, .unset, .unset, .unset] [(.ref (A 9)), (.int (9 : Int32)), (.ref b1), (.ref b1)])) _
    refine st31 _ ?_
    show Steps p.tables e below (T31.setTop (mkF m 69 #[.val (.int p1), .unset, .unset, .unset, .unset, .unset] [(.ref b1)])) _
    refine XS.dup X31.here hx rfl (hb hby at_69) rfl rfl ?_
    show Steps p.tables e below (T31.setTop (mkF m 70 #[.val (.int p1), .unset, .unset, .unset, .unset, .unset] [(.ref b1), (.ref b1)])) _
    refine XS.bipush X31.here hx rfl (hb hby at_70) ?_
    show Steps p.tables e below (T31.setTop (mkF m 72 #[.val (.int p1), .unset, .unset, .unset, .unset, .unset] [(.int (10 : Int32)), (.ref b1), (.ref b1)])) _
    refine st32 _ ?_
    show Steps p.tables e below (T32.setTop (mkF m 75 #[.val (.int p1), .unset, .unset, .unset, .unset, .unset] [(.ref (A 10)), (.int (10 : Int32)), (.ref b1), (.ref b1)])) _
    refine st34 _ ?_
    show Steps p.tables e below (T34.setTop (mkF m 76 #[.val (.int p1), .unset, .unset, .unset, .unset, .unset] [(.ref b1)])) _
    refine XS.dup X34.here hx rfl (hb hby at_76) rfl rfl ?_
    show Steps p.tables e below (T34.setTop (mkF m 77 #[.val (.int p1), .unset, .unset, .unset, .unset, .unset] [(.ref b1), (.ref b1)])) _
    refine XS.bipush X34.here hx rfl (hb hby at_77) ?_
    show Steps p.tables e below (T34.setTop (mkF m 79 #[.val (.int p1), .unset, .unset, .unset, .unset, .unset] [(.int (11 : Int32)), (.ref b1), (.ref b1)])) _
    refine st35 _ ?_
    show Steps p.tables e below (T35.setTop (mkF m 82 #[.val (.int p1), .unset, .unset, .unset, .unset, .unset] [(.ref (A 11)), (.int (11 : Int32)), (.ref b1), (.ref b1)])) _
    refine st37 _ ?_
    show Steps p.tables e below (T37.setTop (mkF m 83 #[.val (.int p1), .unset, .unset, .unset, .unset, .unset] [(.ref b1)])) _
    refine XS.dup X37.here hx rfl (hb hby at_83) rfl rfl ?_
    show Steps p.tables e below (T37.setTop (mkF m 84 #[.val (.int p1), .unset, .unset, .unset, .unset, .unset] [(.ref b1), (.ref b1)])) _
    refine XS.bipush X37.here hx rfl (hb hby at_84) ?_
    show Steps p.tables e below (T37.setTop (mkF m 86 #[.val (.int p1), .unset, .unset, .unset, .unset, .unset] [(.int (12 : Int32)), (.ref b1), (.ref b1)])) _
    refine st38 _ ?_
    show Steps p.tables e below (T38.setTop (mkF m 89 #[.val (.int p1), .unset, .unset, .unset, .unset, .unset] [(.ref (A 12)), (.int (12 : Int32)), (.ref b1), (.ref b1)])) _
    refine st40 _ ?_
    show Steps p.tables e below (T40.setTop (mkF m 90 #[.val (.int p1), .unset, .unset, .unset, .unset, .unset] [(.ref b1)])) _
    refine XS.dup X40.here hx rfl (hb hby at_90) rfl rfl ?_
    show Steps p.tables e below (T40.setTop (mkF m 91 #[.val (.int p1), .unset, .unset, .unset, .unset, .unset] [(.ref b1), (.ref b1)])) _
    refine XS.bipush X40.here hx rfl (hb hby at_91) ?_
    show Steps p.tables e below (T40.setTop (mkF m 93 #[.val (.int p1), .unset, .unset, .unset, .unset, .unset] [(.int (13 : Int32)), (.ref b1), (.ref b1)])) _
    refine st41 _ ?_
    show Steps p.tables e below (T41.setTop (mkF m 96 #[.val (.int p1), .unset, .unset, .unset, .unset, .unset] [(.ref (A 13)), (.int (13 : Int32)), (.ref b1), (.ref b1)])) _
    refine st43 _ ?_
    show Steps p.tables e below (T43.setTop (mkF m 97 #[.val (.int p1), .unset, .unset, .unset, .unset, .unset] [(.ref b1)])) _
    refine XS.dup X43.here hx rfl (hb hby at_97) rfl rfl ?_
    show Steps p.tables e below (T43.setTop (mkF m 98 #[.val (.int p1), .unset, .unset, .unset, .unset, .unset] [(.ref b1), (.ref b1)])) _
    refine XS.bipush X43.here hx rfl (hb hby at_98) ?_
    show Steps p.tables e below (T43.setTop (mkF m 100 #[.val (.int p1), .unset, .unset, .unset, .unset, .unset] [(.int (14 : Int32)), (.ref b1), (.ref b1)])) _
    refine st44 _ ?_
    show Steps p.tables e below (T44.setTop (mkF m 103 #[.val (.int p1), .unset, .unset, .unset, .unset, .unset] [(.ref (A 14)), (.int (14 : Int32)), (.ref b1), (.ref b1)])) _
    refine st46 _ ?_
    show Steps p.tables e below (T46.setTop (mkF m 104 #[.val (.int p1), .unset, .unset, .unset, .unset, .unset] [(.ref b1)])) _
    refine XS.dup X46.here hx rfl (hb hby at_104) rfl rfl ?_
    show Steps p.tables e below (T46.setTop (mkF m 105 #[.val (.int p1), .unset, .unset, .unset, .unset, .unset] [(.ref b1), (.ref b1)])) _
    refine XS.bipush X46.here hx rfl (hb hby at_105) ?_
    show Steps p.tables e below (T46.setTop (mkF m 107 #[.val (.int p1), .unset, .unset, .unset, .unset, .unset] [(.int (15 : Int32)), (.ref b1), (.ref b1)])) _
    refine st47 _ ?_
    show Steps p.tables e below (T47.setTop (mkF m 110 #[.val (.int p1), .unset, .unset, .unset, .unset, .unset] [(.ref (A 15)), (.int (15 : Int32)), (.ref b1), (.ref b1)])) _
    refine st49 _ ?_
    show Steps p.tables e below (T49.setTop (mkF m 111 #[.val (.int p1), .unset, .unset, .unset, .unset, .unset] [(.ref b1)])) _
    refine XS.dup X49.here hx rfl (hb hby at_111) rfl rfl ?_
    show Steps p.tables e below (T49.setTop (mkF m 112 #[.val (.int p1), .unset, .unset, .unset, .unset, .unset] [(.ref b1), (.ref b1)])) _
    refine XS.bipush X49.here hx rfl (hb hby at_112) ?_
    show Steps p.tables e below (T49.setTop (mkF m 114 #[.val (.int p1), .unset, .unset, .unset, .unset, .unset] [(.int (16 : Int32)), (.ref b1), (.ref b1)])) _
    refine st50 _ ?_
    show Steps p.tables e below (T50.setTop (mkF m 117 #[.val (.int p1), .unset, .unset, .unset, .unset, .unset] [(.ref (A 16)), (.int (16 : Int32)), (.ref b1), (.ref b1)])) _
    refine st52 _ ?_
    show Steps p.tables e below (T52.setTop (mkF m 118 #[.val (.int p1), .unset, .unset, .unset, .unset, .unset] [(.ref b1)])) _
    refine XS.dup X52.here hx rfl (hb hby at_118) rfl rfl ?_
    show Steps p.tables e below (T52.setTop (mkF m 119 #[.val (.int p1), .unset, .unset, .unset, .unset, .unset] [(.ref b1), (.ref b1)])) _
    refine XS.bipush X52.here hx rfl (hb hby at_119) ?_
    show Steps p.tables e below (T52.setTop (mkF m 121 #[.val (.int p1), .unset, .unset, .unset, .unset, .unset] [(.int (17 : Int32)), (.ref b1), (.ref b1)])) _
    refine st53 _ ?_
    show Steps p.tables e below (T53.setTop (mkF m 124 #[.val (.int p1), .unset, .unset, .unset, .unset, .unset] [(.ref (A 17)), (.int (17 : Int32)), (.ref b1), (.ref b1)])) _
    refine st55 _ ?_
    show Steps p.tables e below (T55.setTop (mkF m 125 #[.val (.int p1), .unset, .unset, .unset, .unset, .unset] [(.ref b1)])) _
    refine XS.dup X55.here hx rfl (hb hby at_125) rfl rfl ?_
    show Steps p.tables e below (T55.setTop (mkF m 126 #[.val (.int p1), .unset, .unset, .unset, .unset, .unset] [(.ref b1), (.ref b1)])) _
    refine XS.bipush X55.here hx rfl (hb hby at_126) ?_
    show Steps p.tables e below (T55.setTop (mkF m 128 #[.val (.int p1), .unset, .unset, .unset, .unset, .unset] [(.int (18 : Int32)), (.ref b1), (.ref b1)])) _
    refine st56 _ ?_
    show Steps p.tables e below (T56.setTop (mkF m 131 #[.val (.int p1), .unset, .unset, .unset, .unset, .unset] [(.ref (A 18)), (.int (18 : Int32)), (.ref b1), (.ref b1)])) _
    refine st58 _ ?_
    show Steps p.tables e below (T58.setTop (mkF m 132 #[.val (.int p1), .unset, .unset, .unset, .unset, .unset] [(.ref b1)])) _
    refine XS.dup X58.here hx rfl (hb hby at_132) rfl rfl ?_
    show Steps p.tables e below (T58.setTop (mkF m 133 #[.val (.int p1), .unset, .unset, .unset, .unset, .unset] [(.ref b1), (.ref b1)])) _
    refine XS.bipush X58.here hx rfl (hb hby at_133) ?_
    show Steps p.tables e below (T58.setTop (mkF m 135 #[.val (.int p1), .unset, .unset, .unset, .unset, .unset] [(.int (19 : Int32)), (.ref b1), (.ref b1)])) _
    refine st59 _ ?_
    show Steps p.tables e below (T59.setTop (mkF m 138 #[.val (.int p1), .unset, .unset, .unset, .unset, .unset] [(.ref (A 19)), (.int (19 : Int32)), (.ref b1), (.ref b1)])) _
    refine st61 _ ?_
    show Steps p.tables e below (T61.setTop (mkF m 139 #[.val (.int p1), .unset, .unset, .unset, .unset, .unset] [(.ref b1)])) _
    refine XS.dup X61.here hx rfl (hb hby at_139) rfl rfl ?_
    show Steps p.tables e below (T61.setTop (mkF m 140 #[.val (.int p1), .unset, .unset, .unset, .unset, .unset] [(.ref b1), (.ref b1)])) _
    refine XS.bipush X61.here hx rfl (hb hby at_140) ?_
    show Steps p.tables e below (T61.setTop (mkF m 142 #[.val (.int p1), .unset, .unset, .unset, .unset, .unset] [(.int (20 : Int32)), (.ref b1), (.ref b1)])) _
    refine st62 _ ?_
    show Steps p.tables e below (T62.setTop (mkF m 145 #[.val (.int p1), .unset, .unset, .unset, .unset, .unset] [(.ref (A 20)), (.int (20 : Int32)), (.ref b1), (.ref b1)])) _
    refine st64 _ ?_
    show Steps p.tables e below (T64.setTop (mkF m 146 #[.val (.int p1), .unset, .unset, .unset, .unset, .unset] [(.ref b1)])) _
    refine XS.dup X64.here hx rfl (hb hby at_146) rfl rfl ?_
    show Steps p.tables e below (T64.setTop (mkF m 147 #[.val (.int p1), .unset, .unset, .unset, .unset, .unset] [(.ref b1), (.ref b1)])) _
    refine XS.bipush X64.here hx rfl (hb hby at_147) ?_
    show Steps p.tables e below (T64.setTop (mkF m 149 #[.val (.int p1), .unset, .unset, .unset, .unset, .unset] [(.int (21 : Int32)), (.ref b1), (.ref b1)])) _
    refine st65 _ ?_
    show Steps p.tables e below (T65.setTop (mkF m 152 #[.val (.int p1), .unset, .unset, .unset, .unset, .unset] [(.ref (A 21)), (.int (21 : Int32)), (.ref b1), (.ref b1)])) _
    refine st67 _ ?_
    show Steps p.tables e below (T67.setTop (mkF m 153 #[.val (.int p1), .unset, .unset, .unset, .unset, .unset] [(.ref b1)])) _
    refine XS.astoreN X67.here hx rfl (hb hby at_153) rfl rfl (l' := #[.val (.int p1), .val (.ref b1), .unset, .unset, .unset, .unset]) rfl ?_
    show Steps p.tables e below (T67.setTop (mkF m 154 #[.val (.int p1), .val (.ref b1), .unset, .unset, .unset, .unset] [])) _
    refine XS.bipush X67.here hx rfl (hb hby at_154) ?_
    show Steps p.tables e below (T67.setTop (mkF m 156 #[.val (.int p1), .val (.ref b1), .unset, .unset, .unset, .unset] [(.int (22 : Int32))])) _
    refine st68 _ ?_
    show Steps p.tables e below (T68.setTop (mkF m 159 #[.val (.int p1), .val (.ref b1), .unset, .unset, .unset, .unset] [(.ref b68)])) _
    refine XS.dup X68.here hx rfl (hb hby at_159) rfl rfl ?_
    show Steps p.tables e below (T68.setTop (mkF m 160 #[.val (.int p1), .val (.ref b1), .unset, .unset, .unset, .unset] [(.ref b68), (.ref b68)])) _
    refine XS.iconst X68.here hx rfl (hb hby at_160) ?_
    show Steps p.tables e below (T68.setTop (mkF m 161 #[.val (.int p1), .val (.ref b1), .unset, .unset, .unset, .unset] [(.int (0 : Int32)), (.ref b68), (.ref b68)])) _
    refine st69 _ ?_
    show Steps p.tables e below (T69.setTop (mkF m 164 #[.val (.int p1), .val (.ref b1), .unset, .unset, .unset, .unset] [(.ref (A 0)), (.int (0 : Int32)), (.ref b68), (.ref b68)])) _
    refine st71 _ ?_
    show Steps p.tables e below (T71.setTop (mkF m 165 #[.val (.int p1), .val (.ref b1), .unset, .unset, .unset, .unset] [(.ref b68)])) _
    refine XS.dup X71.here hx rfl (hb hby at_165) rfl rfl ?_
    show Steps p.tables e below (T71.setTop (mkF m 166 #[.val (.int p1), .val (.ref b1), .unset, .unset, .unset, .unset] [(.ref b68), (.ref b68)])) _
    refine XS.iconst X71.here hx rfl (hb hby at_166) ?_
    show Steps p.tables e below (T71.setTop (mkF m 167 #[.val (.int p1), .val (.ref b1), .unset, .unset, .unset, .unset] [(.int (1 : Int32)), (.ref b68), (.ref b68)])) _
    refine st72 _ ?_
    show Steps p.tables e below (T72.setTop (mkF m 170 #[.val (.int p1), .val (.ref b1), .unset, .unset, .unset, .unset] [(.ref (A 1)), (.int (1 : Int32)), (.ref b68), (.ref b68)])) _
    refine st74 _ ?_
    show Steps p.tables e below (T74.setTop (mkF m 171 #[.val (.int p1), .val (.ref b1), .unset, .unset, .unset, .unset] [(.ref b68)])) _
    refine XS.dup X74.here hx rfl (hb hby at_171) rfl rfl ?_
    show Steps p.tables e below (T74.setTop (mkF m 172 #[.val (.int p1), .val (.ref b1), .unset, .unset, .unset, .unset] [(.ref b68), (.ref b68)])) _
    refine XS.iconst X74.here hx rfl (hb hby at_172) ?_
    show Steps p.tables e below (T74.setTop (mkF m 173 #[.val (.int p1), .val (.ref b1), .unset, .unset, .unset, .unset] [(.int (2 : Int32)), (.ref b68), (.ref b68)])) _
    refine st75 _ ?_
    show Steps p.tables e below (T75.setTop (mkF m 176 #[.val (.int p1), .val (.ref b1), .unset, .unset, .unset, .unset] [(.ref (A 2)), (.int (2 : Int32)), (.ref b68), (.ref b68)])) _
    refine st77 _ ?_
    show Steps p.tables e below (T77.setTop (mkF m 177 #[.val (.int p1), .val (.ref b1), .unset, .unset, .unset, .unset] [(.ref b68)])) _
    refine XS.dup X77.here hx rfl (hb hby at_177) rfl rfl ?_
    show Steps p.tables e below (T77.setTop (mkF m 178 #[.val (.int p1), .val (.ref b1), .unset, .unset, .unset, .unset] [(.ref b68), (.ref b68)])) _
    refine XS.iconst X77.here hx rfl (hb hby at_178) ?_
    show Steps p.tables e below (T77.setTop (mkF m 179 #[.val (.int p1), .val (.ref b1), .unset, .unset, .unset, .unset] [(.int (3 : Int32)), (.ref b68), (.ref b68)])) _
    refine st78 _ ?_
    show Steps p.tables e below (T78.setTop (mkF m 182 #[.val (.int p1), .val (.ref b1), .unset, .unset, .unset, .unset] [(.ref (A 20)), (.int (3 : Int32)), (.ref b68), (.ref b68)])) _
    refine st80 _ ?_
    show Steps p.tables e below (T80.setTop (mkF m 183 #[.val (.int p1), .val (.ref b1), .unset, .unset, .unset, .unset] [(.ref b68)])) _
    refine XS.dup X80.here hx rfl (hb hby at_183) rfl rfl ?_
    show Steps p.tables e below (T80.setTop (mkF m 184 #[.val (.int p1), .val (.ref b1), .unset, .unset, .unset, .unset] [(.ref b68), (.ref b68)])) _
    refine XS.iconst X80.here hx rfl (hb hby at_184) ?_
    show Steps p.tables e below (T80.setTop (mkF m 185 #[.val (.int p1), .val (.ref b1), .unset, .unset, .unset, .unset] [(.int (4 : Int32)), (.ref b68), (.ref b68)])) _
    refine st81 _ ?_
    show Steps p.tables e below (T81.setTop (mkF m 188 #[.val (.int p1), .val (.ref b1), .unset, .unset, .unset, .unset] [(.ref (A 4)), (.int (4 : Int32)), (.ref b68), (.ref b68)])) _
    refine st83 _ ?_
    show Steps p.tables e below (T83.setTop (mkF m 189 #[.val (.int p1), .val (.ref b1), .unset, .unset, .unset, .unset] [(.ref b68)])) _
    refine XS.dup X83.here hx rfl (hb hby at_189) rfl rfl ?_
    show Steps p.tables e below (T83.setTop (mkF m 190 #[.val (.int p1), .val (.ref b1), .unset, .unset, .unset, .unset] [(.ref b68), (.ref b68)])) _
    refine XS.iconst X83.here hx rfl (hb hby at_190) ?_
    show Steps p.tables e below (T83.setTop (mkF m 191 #[.val (.int p1), .val (.ref b1), .unset, .unset, .unset, .unset] [(.int (5 : Int32)), (.ref b68), (.ref b68)])) _
    refine st84 _ ?_
    show Steps p.tables e below (T84.setTop (mkF m 194 #[.val (.int p1), .val (.ref b1), .unset, .unset, .unset, .unset] [(.ref (A 19)), (.int (5 : Int32)), (.ref b68), (.ref b68)])) _
    refine st86 _ ?_
    show Steps p.tables e below (T86.setTop (mkF m 195 #[.val (.int p1), .val (.ref b1), .unset, .unset, .unset, .unset] [(.ref b68)])) _
    refine XS.dup X86.here hx rfl (hb hby at_195) rfl rfl ?_
    show Steps p.tables e below (T86.setTop (mkF m 196 #[.val (.int p1), .val (.ref b1), .unset, .unset, .unset, .unset] [(.ref b68), (.ref b68)])) _
    refine XS.bipush X86.here hx rfl (hb hby at_196) ?_
    show Steps p.tables e below (T86.setTop (mkF m 198 #[.val (.int p1), .val (.ref b1), .unset, .unset, .unset, .unset] [(.int (6 : Int32)), (.ref b68), (.ref b68)])) _
    refine st87 _ ?_
    show Steps p.tables e below (T87.setTop (mkF m 201 #[.val (.int p1), .val (.ref b1), .unset, .unset, .unset, .unset] [(.ref (A 6)), (.int (6 : Int32)), (.ref b68), (.ref b68)])) _
    refine st89 _ ?_
    show Steps p.tables e below (T89.setTop (mkF m 202 #[.val (.int p1), .val (.ref b1), .unset, .unset, .unset, .unset] [(.ref b68)])) _
    refine XS.dup X89.here hx rfl (hb hby at_202) rfl rfl ?_
    show Steps p.tables e below (T89.setTop (mkF m 203 #[.val (.int p1), .val (.ref b1), .unset, .unset, .unset, .unset] [(.ref b68), (.ref b68)])) _
    refine XS.bipush X89.here hx rfl (hb hby at_203) ?_
    show Steps p.tables e below (T89.setTop (mkF m 205 #[.val (.int p1), .val (.ref b1), .unset, .unset, .unset, .unset] [(.int (7 : Int32)), (.ref b68), (.ref b68)])) _
    refine st90 _ ?_
    show Steps p.tables e below (T90.setTop (mkF m 208 #[.val (.int p1), .val (.ref b1), .unset, .unset, .unset, .unset] [(.ref (A 7)), (.int (7 : Int32)), (.ref b68), (.ref b68)])) _
    refine st92 _ ?_
    show Steps p.tables e below (T92.setTop (mkF m 209 #[.val (.int p1), .val (.ref b1), .unset, .unset, .unset, .unset] [(.ref b68)])) _
    refine XS.dup X92.here hx rfl (hb hby at_209) rfl rfl ?_
    show Steps p.tables e below (T92.setTop (mkF m 210 #[.val (.int p1), .val (.ref b1), .unset, .unset, .unset, .unset] [(.ref b68), (.ref b68)])) _
    refine XS.bipush X92.here hx rfl (hb hby at_210) ?_
    show Steps p.tables e below (T92.setTop (mkF m 212 #[.val (.int p1), .val (.ref b1), .unset, .unset, .unset, .unset] [(.int (8 : Int32)), (.ref b68), (.ref b68)])) _
    refine st93 _ ?_
    show Steps p.tables e below (T93.setTop (mkF m 215 #[.val (.int p1), .val (.ref b1), .unset, .unset, .unset, .unset] [(.ref (A 20)), (.int (8 : Int32)), (.ref b68), (.ref b68)])) _
    refine st95 _ ?_
    show Steps p.tables e below (T95.setTop (mkF m 216 #[.val (.int p1), .val (.ref b1), .unset, .unset, .unset, .unset] [(.ref b68)])) _
    refine XS.dup X95.here hx rfl (hb hby at_216) rfl rfl ?_
    show Steps p.tables e below (T95.setTop (mkF m 217 #[.val (.int p1), .val (.ref b1), .unset, .unset, .unset, .unset] [(.ref b68), (.ref b68)])) _
    refine XS.bipush X95.here hx rfl (hb hby at_217) ?_
    show Steps p.tables e below (T95.setTop (mkF m 219 #[.val (.int p1), .val (.ref b1), .unset, .unset, .unset, .unset] [(.int (9 : Int32)), (.ref b68), (.ref b68)])) _
    refine st96 _ ?_
    show Steps p.tables e below (T96.setTop (mkF m 222 #[.val (.int p1), .val (.ref b1), .unset, .unset, .unset, .unset] [(.ref (A 19)), (.int (9 : Int32)), (.ref b68), (.ref b68)])) _
    refine st98 _ ?_
    show Steps p.tables e below (T98.setTop (mkF m 223 #[.val (.int p1), .val (.ref b1), .unset, .unset, .unset, .unset] [(.ref b68)])) _
    refine XS.dup X98.here hx rfl (hb hby at_223) rfl rfl ?_
    show Steps p.tables e below (T98.setTop (mkF m 224 #[.val (.int p1), .val (.ref b1), .unset, .unset, .unset, .unset] [(.ref b68), (.ref b68)])) _
    refine XS.bipush X98.here hx rfl (hb hby at_224) ?_
    show Steps p.tables e below (T98.setTop (mkF m 226 #[.val (.int p1), .val (.ref b1), .unset, .unset, .unset, .unset] [(.int (10 : Int32)), (.ref b68), (.ref b68)])) _
    refine st99 _ ?_
    show Steps p.tables e below (T99.setTop (mkF m 229 #[.val (.int p1), .val (.ref b1), .unset, .unset, .unset, .unset] [(.ref (A 10)), (.int (10 : Int32)), (.ref b68), (.ref b68)])) _
    refine st101 _ ?_
    show Steps p.tables e below (T101.setTop (mkF m 230 #[.val (.int p1), .val (.ref b1), .unset, .unset, .unset, .unset] [(.ref b68)])) _
    refine XS.dup X101.here hx rfl (hb hby at_230) rfl rfl ?_
    show Steps p.tables e below (T101.setTop (mkF m 231 #[.val (.int p1), .val (.ref b1), .unset, .unset, .unset, .unset] [(.ref b68), (.ref b68)])) _
    refine XS.bipush X101.here hx rfl (hb hby at_231) ?_
    show Steps p.tables e below (T101.setTop (mkF m 233 #[.val (.int p1), .val (.ref b1), .unset, .unset, .unset, .unset] [(.int (11 : Int32)), (.ref b68), (.ref b68)])) _
    refine st102 _ ?_
    show Steps p.tables e below (T102.setTop (mkF m 236 #[.val (.int p1), .val (.ref b1), .unset, .unset, .unset, .unset] [(.ref (A 19)), (.int (11 : Int32)), (.ref b68), (.ref b68)])) _
    refine st104 _ ?_
    show Steps p.tables e below (T104.setTop (mkF m 237 #[.val (.int p1), .val (.ref b1), .unset, .unset, .unset, .unset] [(.ref b68)])) _
    refine XS.dup X104.here hx rfl (hb hby at_237) rfl rfl ?_
    show Steps p.tables e below (T104.setTop (mkF m 238 #[.val (.int p1), .val (.ref b1), .unset, .unset, .unset, .unset] [(.ref b68), (.ref b68)])) _
    refine XS.bipush X104.here hx rfl (hb hby at_238) ?_
    show Steps p.tables e below (T104.setTop (mkF m 240 #[.val (.int p1), .val (.ref b1), .unset, .unset, .unset, .unset] [(.int (12 : Int32)), (.ref b68), (.ref b68)])) _
    refine st105 _ ?_
    show Steps p.tables e below (T105.setTop (mkF m 243 #[.val (.int p1), .val (.ref b1), .unset, .unset, .unset, .unset] [(.ref (A 20)), (.int (12 : Int32)), (.ref b68), (.ref b68)])) _
    refine st107 _ ?_
    show Steps p.tables e below (T107.setTop (mkF m 244 #[.val (.int p1), .val (.ref b1), .unset, .unset, .unset, .unset] [(.ref b68)])) _
    refine XS.dup X107.here hx rfl (hb hby at_244) rfl rfl ?_
    show Steps p.tables e below (T107.setTop (mkF m 245 #[.val (.int p1), .val (.ref b1), .unset, .unset, .unset, .unset] [(.ref b68), (.ref b68)])) _
    refine XS.bipush X107.here hx rfl (hb hby at_245) ?_
    show Steps p.tables e below (T107.setTop (mkF m 247 #[.val (.int p1), .val (.ref b1), .unset, .unset, .unset, .unset] [(.int (13 : Int32)), (.ref b68), (.ref b68)])) _
    refine st108 _ ?_
    show Steps p.tables e below (T108.setTop (mkF m 250 #[.val (.int p1), .val (.ref b1), .unset, .unset, .unset, .unset] [(.ref (A 19)), (.int (13 : Int32)), (.ref b68), (.ref b68)])) _
    refine st110 _ ?_
    show Steps p.tables e below (T110.setTop (mkF m 251 #[.val (.int p1), .val (.ref b1), .unset, .unset, .unset, .unset] [(.ref b68)])) _
    refine XS.dup X110.here hx rfl (hb hby at_251) rfl rfl ?_
    show Steps p.tables e below (T110.setTop (mkF m 252 #[.val (.int p1), .val (.ref b1), .unset, .unset, .unset, .unset] [(.ref b68), (.ref b68)])) _
    refine XS.bipush X110.here hx rfl (hb hby at_252) ?_
    show Steps p.tables e below (T110.setTop (mkF m 254 #[.val (.int p1), .val (.ref b1), .unset, .unset, .unset, .unset] [(.int (14 : Int32)), (.ref b68), (.ref b68)])) _
    refine st111 _ ?_
    show Steps p.tables e below (T111.setTop (mkF m 257 #[.val (.int p1), .val (.ref b1), .unset, .unset, .unset, .unset] [(.ref (A 19)), (.int (14 : Int32)), (.ref b68), (.ref b68)])) _
    refine st113 _ ?_
    show Steps p.tables e below (T113.setTop (mkF m 258 #[.val (.int p1), .val (.ref b1), .unset, .unset, .unset, .unset] [(.ref b68)])) _
    refine XS.dup X113.here hx rfl (hb hby at_258) rfl rfl ?_
    show Steps p.tables e below (T113.setTop (mkF m 259 #[.val (.int p1), .val (.ref b1), .unset, .unset, .unset, .unset] [(.ref b68), (.ref b68)])) _
    refine XS.bipush X113.here hx rfl (hb hby at_259) ?_
    show Steps p.tables e below (T113.setTop (mkF m 261 #[.val (.int p1), .val (.ref b1), .unset, .unset, .unset, .unset] [(.int (15 : Int32)), (.ref b68), (.ref b68)])) _
    refine st114 _ ?_
    show Steps p.tables e below (T114.setTop (mkF m 264 #[.val (.int p1), .val (.ref b1), .unset, .unset, .unset, .unset] [(.ref (A 18)), (.int (15 : Int32)), (.ref b68), (.ref b68)])) _
    refine st116 _ ?_
    show Steps p.tables e below (T116.setTop (mkF m 265 #[.val (.int p1), .val (.ref b1), .unset, .unset, .unset, .unset] [(.ref b68)])) _
    refine XS.dup X116.here hx rfl (hb hby at_265) rfl rfl ?_
    show Steps p.tables e below (T116.setTop (mkF m 266 #[.val (.int p1), .val (.ref b1), .unset, .unset, .unset, .unset] [(.ref b68), (.ref b68)])) _
    refine XS.bipush X116.here hx rfl (hb hby at_266) ?_
    show Steps p.tables e below (T116.setTop (mkF m 268 #[.val (.int p1), .val (.ref b1), .unset, .unset, .unset, .unset] [(.int (16 : Int32)), (.ref b68), (.ref b68)])) _
    refine st117 _ ?_
    show Steps p.tables e below (T117.setTop (mkF m 271 #[.val (.int p1), .val (.ref b1), .unset, .unset, .unset, .unset] [(.ref (A 19)), (.int (16 : Int32)), (.ref b68), (.ref b68)])) _
    refine st119 _ ?_
    show Steps p.tables e below (T119.setTop (mkF m 272 #[.val (.int p1), .val (.ref b1), .unset, .unset, .unset, .unset] [(.ref b68)])) _
    refine XS.dup X119.here hx rfl (hb hby at_272) rfl rfl ?_
    show Steps p.tables e below (T119.setTop (mkF m 273 #[.val (.int p1), .val (.ref b1), .unset, .unset, .unset, .unset] [(.ref b68), (.ref b68)])) _
    refine XS.bipush X119.here hx rfl (hb hby at_273) ?_
    show Steps p.tables e below (T119.setTop (mkF m 275 #[.val (.int p1), .val (.ref b1), .unset, .unset, .unset, .unset] [(.int (17 : Int32)), (.ref b68), (.ref b68)])) _
    refine st120 _ ?_
    show Steps p.tables e below (T120.setTop (mkF m 278 #[.val (.int p1), .val (.ref b1), .unset, .unset, .unset, .unset] [(.ref (A 17)), (.int (17 : Int32)), (.ref b68), (.ref b68)])) _
    refine st122 _ ?_
    show Steps p.tables e below (T122.setTop (mkF m 279 #[.val (.int p1), .val (.ref b1), .unset, .unset, .unset, .unset] [(.ref b68)])) _
    refine XS.dup X122.here hx rfl (hb hby at_279) rfl rfl ?_
    show Steps p.tables e below (T122.setTop (mkF m 280 #[.val (.int p1), .val (.ref b1), .unset, .unset, .unset, .unset] [(.ref b68), (.ref b68)])) _
    refine XS.bipush X122.here hx rfl (hb hby at_280) ?_
    show Steps p.tables e below (T122.setTop (mkF m 282 #[.val (.int p1), .val (.ref b1), .unset, .unset, .unset, .unset] [(.int (18 : Int32)), (.ref b68), (.ref b68)])) _
    refine st123 _ ?_
    show Steps p.tables e below (T123.setTop (mkF m 285 #[.val (.int p1), .val (.ref b1), .unset, .unset, .unset, .unset] [(.ref (A 18)), (.int (18 : Int32)), (.ref b68), (.ref b68)])) _
    refine st125 _ ?_
    show Steps p.tables e below (T125.setTop (mkF m 286 #[.val (.int p1), .val (.ref b1), .unset, .unset, .unset, .unset] [(.ref b68)])) _
    refine XS.dup X125.here hx rfl (hb hby at_286) rfl rfl ?_
    show Steps p.tables e below (T125.setTop (mkF m 287 #[.val (.int p1), .val (.ref b1), .unset, .unset, .unset, .unset] [(.ref b68), (.ref b68)])) _
    refine XS.bipush X125.here hx rfl (hb hby at_287) ?_
    show Steps p.tables e below (T125.setTop (mkF m 289 #[.val (.int p1), .val (.ref b1), .unset, .unset, .unset, .unset] [(.int (19 : Int32)), (.ref b68), (.ref b68)])) _
    refine st126 _ ?_
    show Steps p.tables e below (T126.setTop (mkF m 292 #[.val (.int p1), .val (.ref b1), .unset, .unset, .unset, .unset] [(.ref (A 19)), (.int (19 : Int32)), (.ref b68), (.ref b68)])) _
    refine st128 _ ?_
    show Steps p.tables e below (T128.setTop (mkF m 293 #[.val (.int p1), .val (.ref b1), .unset, .unset, .unset, .unset] [(.ref b68)])) _
    refine XS.dup X128.here hx rfl (hb hby at_293) rfl rfl ?_
    show Steps p.tables e below (T128.setTop (mkF m 294 #[.val (.int p1), .val (.ref b1), .unset, .unset, .unset, .unset] [(.ref b68), (.ref b68)])) _
    refine XS.bipush X128.here hx rfl (hb hby at_294) ?_
    show Steps p.tables e below (T128.setTop (mkF m 296 #[.val (.int p1), .val (.ref b1), .unset, .unset, .unset, .unset] [(.int (20 : Int32)), (.ref b68), (.ref b68)])) _
    refine st129 _ ?_
    show Steps p.tables e below (T129.setTop (mkF m 299 #[.val (.int p1), .val (.ref b1), .unset, .unset, .unset, .unset] [(.ref (A 20)), (.int (20 : Int32)), (.ref b68), (.ref b68)])) _
    refine st131 _ ?_
    show Steps p.tables e below (T131.setTop (mkF m 300 #[.val (.int p1), .val (.ref b1), .unset, .unset, .unset, .unset] [(.ref b68)])) _
    refine XS.dup X131.here hx rfl (hb hby at_300) rfl rfl ?_
    show Steps p.tables e below (T131.setTop (mkF m 301 #[.val (.int p1), .val (.ref b1), .unset, .unset, .unset, .unset] [(.ref b68), (.ref b68)])) _
    refine XS.bipush X131.here hx rfl (hb hby at_301) ?_
    show Steps p.tables e below (T131.setTop (mkF m 303 #[.val (.int p1), .val (.ref b1), .unset, .unset, .unset, .unset] [(.int (21 : Int32)), (.ref b68), (.ref b68)])) _
    refine st132 _ ?_
    show Steps p.tables e below (T132.setTop (mkF m 306 #[.val (.int p1), .val (.ref b1), .unset, .unset, .unset, .unset] [(.ref (A 21)), (.int (21 : Int32)), (.ref b68), (.ref b68)])) _
    refine st134 _ ?_
    show Steps p.tables e below (T134.setTop (mkF m 307 #[.val (.int p1), .val (.ref b1), .unset, .unset, .unset, .unset] [(.ref b68)])) _
    refine XS.astoreN X134.here hx rfl (hb hby at_307) rfl rfl (l' := #[.val (.int p1), .val (.ref b1), .val (.ref b68), .unset, .unset, .unset]) rfl ?_
    show Steps p.tables e below (T134.setTop (mkF m 308 #[.val (.int p1), .val (.ref b1), .val (.ref b68), .unset, .unset, .unset] [])) _
    refine XS.iloadN X134.here hx rfl (hb hby at_308) rfl ?_
    show Steps p.tables e below (T134.setTop (mkF m 309 #[.val (.int p1), .val (.ref b1), .val (.ref b68), .unset, .unset, .unset] [(.int p1)])) _
    refine X134.ldcInt hx hown (mvT hZ (hw _ (List.mem_of_getElem? (i := 48) rfl))) (g := (mkF m 309 #[.val (.int p1), .val (.ref b1), .val (.ref b68), .unset, .unset, .unset] [(.int p1)])) rfl (hb hby at_309) _ ?_
    show Steps p.tables e below (T134.setTop (mkF m 311 #[.val (.int p1), .val (.ref b1), .val (.ref b68), .unset, .unset, .unset] [(.int (2147483647 : Int32)), (.int p1)])) _
    refine XS.iand X134.here hx rfl (hb hby at_311) rfl ?_
    show Steps p.tables e below (T134.setTop (mkF m 312 #[.val (.int p1), .val (.ref b1), .val (.ref b68), .unset, .unset, .unset] [(.int (p1 &&& (2147483647 : Int32)))])) _
    refine XS.bipush X134.here hx rfl (hb hby at_312) ?_
    show Steps p.tables e below (T134.setTop (mkF m 314 #[.val (.int p1), .val (.ref b1), .val (.ref b68), .unset, .unset, .unset] [(.int (22 : Int32)), (.int (p1 &&& (2147483647 : Int32)))])) _
    refine iremM X134 hx rfl (hb hby at_314) rfl (by decide) ?_
    exact k)
  obtain ⟨nn136, hn136, hk136⟩ := own_k p1
  match nn136, hn136, hk136 with
  | 0, _, hk136 =>
    have fx137 : Arv Z h134 b1 k1 (.object "com/example/dongl/dongl/core/ErrorCode") (22 : Int32) [(.ref (A 0)), (.ref (A 1)), (.ref (A 2)), (.ref (A 3)), (.ref (A 4)), (.ref (A 5)), (.ref (A 6)), (.ref (A 7)), (.ref (A 8)), (.ref (A 9)), (.ref (A 10)), (.ref (A 11)), (.ref (A 12)), (.ref (A 13)), (.ref (A 14)), (.ref (A 15)), (.ref (A 16)), (.ref (A 17)), (.ref (A 18)), (.ref (A 19)), (.ref (A 20)), (.ref (A 21))] .null := (((((((((((((((((((((((V67.ext E68).other W71 (Nat.ne_of_lt lt_b1_b68)).other W74 (Nat.ne_of_lt lt_b1_b68)).other W77 (Nat.ne_of_lt lt_b1_b68)).other W80 (Nat.ne_of_lt lt_b1_b68)).other W83 (Nat.ne_of_lt lt_b1_b68)).other W86 (Nat.ne_of_lt lt_b1_b68)).other W89 (Nat.ne_of_lt lt_b1_b68)).other W92 (Nat.ne_of_lt lt_b1_b68)).other W95 (Nat.ne_of_lt lt_b1_b68)).other W98 (Nat.ne_of_lt lt_b1_b68)).other W101 (Nat.ne_of_lt lt_b1_b68)).other W104 (Nat.ne_of_lt lt_b1_b68)).other W107 (Nat.ne_of_lt lt_b1_b68)).other W110 (Nat.ne_of_lt lt_b1_b68)).other W113 (Nat.ne_of_lt lt_b1_b68)).other W116 (Nat.ne_of_lt lt_b1_b68)).other W119 (Nat.ne_of_lt lt_b1_b68)).other W122 (Nat.ne_of_lt lt_b1_b68)).other W125 (Nat.ne_of_lt lt_b1_b68)).other W128 (Nat.ne_of_lt lt_b1_b68)).other W131 (Nat.ne_of_lt lt_b1_b68)).other W134 (Nat.ne_of_lt lt_b1_b68))
    obtain ⟨cl138, Ar138, q138, Sz138, Nn138, Hh138, Gg138⟩ := (id fx137)
    have hin138 : ¬ ((0 : Int32) < 0 ∨ cl138.slots.size ≤ ((0 : Int32)).toNatClampNeg) := inb_of Sz138 ⟨by decide, by decide⟩
    have hat138 : cl138.slots[((0 : Int32)).toNatClampNeg]? = some (.ref (A 0)) := Has.at Hh138 hin138 rfl
    obtain ⟨_, _, ⟨T143, L143, k143, n143⟩, -, X143, ⟨Lc143, hQ143, l143, y143, z143⟩, st143⟩ := Jvm.LawKit.callS X134 hx (y := own_m0) hown (mvT hZ (hw _ (List.mem_of_getElem? (i := 49) rfl))) (mvT hZ (hw _ (List.mem_of_getElem? (i := 50) rfl))) (mvT hZ (hw _ (List.mem_of_getElem? (i := 51) rfl))) (mvT hZ (hw _ (List.mem_of_getElem? (i := 52) rfl))) (by decide) (backOf (W := 0) (rm1 l Z a0 hw [] h134 n0 p1 A K EN OL134) hZ (hw _ (List.mem_of_getElem? (i := 52) rfl)) (hw _ (List.mem_of_getElem? (i := 51) rfl)) (by decide) (by decide)) (g := (mkF m 323 #[.val (.int p1), .val (.ref b1), .val (.ref b68), .val (.int (0 : Int32)), .val (.ref (A 0)), .unset] [(.ref (A 0))])) rfl (by rw [hml]; rfl) (argsL := [(.ref (A 0))]) (rest := []) (lenOf own_pd1 rfl) rfl (by show 2 * 0 + _ ≤ _; exact Nat.le_of_eq rfl) (hb hby at_323) (fun _ _ => ⟨rfl, e134, (by decide : 2 + 0 ≤ _), (by decide : 44 + 0 ≤ _)⟩)
    dsimp only [Pt.U, Pt.locs, Pt.cells, Pt.slots] at X143 l143 y143 z143 st143 hQ143
    replace X143 := own_sub X143 l143 y143 z143
    obtain ⟨rfl, N143q, e143⟩ := hQ143
    have N143 := Fr.app NF134 N143q
    obtain ⟨cl144, Ar144, q144, Sz144, Nn144, Hh144, Gg144⟩ := (id V134)
    have hin144 : ¬ ((0 : Int32) < 0 ∨ cl144.slots.size ≤ ((0 : Int32)).toNatClampNeg) := inb_of Sz144 ⟨by decide, by decide⟩
    have hat144 : cl144.slots[((0 : Int32)).toNatClampNeg]? = some (.ref (A 0)) := Has.at Hh144 hin144 rfl
    obtain ⟨_, _, ⟨T145, L145, k145, n145⟩, -, X145, ⟨Lc145, hQ145, l145, y145, z145⟩, st145⟩ := Jvm.LawKit.callS X143 hx (y := own_m0) hown (mvT hZ (hw _ (List.mem_of_getElem? (i := 49) rfl))) (mvT hZ (hw _ (List.mem_of_getElem? (i := 50) rfl))) (mvT hZ (hw _ (List.mem_of_getElem? (i := 51) rfl))) (mvT hZ (hw _ (List.mem_of_getElem? (i := 52) rfl))) (by decide) (backOf (W := 0) (rm1 l Z a0 hw [] h134 n0 p1 A K EN OL134) hZ (hw _ (List.mem_of_getElem? (i := 52) rfl)) (hw _ (List.mem_of_getElem? (i := 51) rfl)) (by decide) (by decide)) (g := (mkF m 340 #[.val (.int p1), .val (.ref b1), .val (.ref b68), .val (.int (0 : Int32)), .val (.ref (A 0)), .val (.ref (A 0))] [(.ref (A 0))])) rfl (by rw [hml]; rfl) (argsL := [(.ref (A 0))]) (rest := []) (lenOf own_pd1 rfl) rfl (by show 2 * 0 + _ ≤ _; exact Nat.le_of_eq rfl) (hb hby at_340) (fun _ _ => ⟨rfl, e143, (by decide : 2 + 0 ≤ _), (by decide : 44 + 0 ≤ _)⟩)
    dsimp only [Pt.U, Pt.locs, Pt.cells, Pt.slots] at X145 l145 y145 z145 st145 hQ145
    replace X145 := own_sub X145 l145 y145 z145
    obtain ⟨rfl, N145q, e145⟩ := hQ145
    have N145 := Fr.app N143 N145q
    obtain ⟨fs, hr, hrun, hended, hW, hsame⟩ := X145.leave (v := some (.int (1 : Int32))) (fun h => by rw [Bd.returns] at h; cases h)
    refine ⟨_, _, pre135 _ ?_, hrun, hended, _, _, rfl, ?_, ⟨_, rfl⟩, hW, hsame.mono (by decide) (by decide)⟩
    · show Steps p.tables e below (T134.setTop (mkF m 315 #[.val (.int p1), .val (.ref b1), .val (.ref b68), .unset, .unset, .unset] [(.int ((p1 &&& (2147483647 : Int32)) % (22 : Int32)))])) _
      rw [hk136]
      show Steps p.tables e below (T134.setTop (mkF m 315 #[.val (.int p1), .val (.ref b1), .val (.ref b68), .unset, .unset, .unset] [(.int (0 : Int32))])) _
      refine XS.istoreN X134.here hx rfl (hb hby at_315) rfl (l' := #[.val (.int p1), .val (.ref b1), .val (.ref b68), .val (.int (0 : Int32)), .unset, .unset]) rfl ?_
      show Steps p.tables e below (T134.setTop (mkF m 316 #[.val (.int p1), .val (.ref b1), .val (.ref b68), .val (.int (0 : Int32)), .unset, .unset] [])) _
      refine XS.aloadN X134.here hx rfl (hb hby at_316) rfl rfl ?_
      show Steps p.tables e below (T134.setTop (mkF m 317 #[.val (.int p1), .val (.ref b1), .val (.ref b68), .val (.int (0 : Int32)), .unset, .unset] [(.ref b1)])) _
      refine XS.iloadN X134.here hx rfl (hb hby at_317) rfl ?_
      show Steps p.tables e below (T134.setTop (mkF m 318 #[.val (.int p1), .val (.ref b1), .val (.ref b68), .val (.int (0 : Int32)), .unset, .unset] [(.int (0 : Int32)), (.ref b1)])) _
      refine X134.aaload hx (j := (0 : Int32)) (v := (.ref (A 0))) (by rw [e134]; exact Ar138.1) (State.isArrayOf_alike hZ.alike Ar138.2.1) rfl Ar138.2.2 hin138 hat138 (g := (mkF m 318 #[.val (.int p1), .val (.ref b1), .val (.ref b68), .val (.int (0 : Int32)), .unset, .unset] [(.int (0 : Int32)), (.ref b1)])) rfl rfl (hb hby at_318) _ ?_
      show Steps p.tables e below (T134.setTop (mkF m 319 #[.val (.int p1), .val (.ref b1), .val (.ref b68), .val (.int (0 : Int32)), .unset, .unset] [(.ref (A 0))])) _
      refine XS.astore X134.here hx rfl (hb hby at_319) rfl rfl (l' := #[.val (.int p1), .val (.ref b1), .val (.ref b68), .val (.int (0 : Int32)), .val (.ref (A 0)), .unset]) rfl ?_
      show Steps p.tables e below (T134.setTop (mkF m 321 #[.val (.int p1), .val (.ref b1), .val (.ref b68), .val (.int (0 : Int32)), .val (.ref (A 0)), .unset] [])) _
      refine XS.aload X134.here hx rfl (hb hby at_321) rfl rfl ?_
      show Steps p.tables e below (T134.setTop (mkF m 323 #[.val (.int p1), .val (.ref b1), .val (.ref b68), .val (.int (0 : Int32)), .val (.ref (A 0)), .unset] [(.ref (A 0))])) _
      refine st143 _ ?_
      show Steps p.tables e below (T143.setTop (mkF m 326 #[.val (.int p1), .val (.ref b1), .val (.ref b68), .val (.int (0 : Int32)), .val (.ref (A 0)), .unset] [(.ref (A 0))])) _
      refine XS.astore X143.here hx rfl (hb hby at_326) rfl rfl (l' := #[.val (.int p1), .val (.ref b1), .val (.ref b68), .val (.int (0 : Int32)), .val (.ref (A 0)), .val (.ref (A 0))]) rfl ?_
      show Steps p.tables e below (T143.setTop (mkF m 328 #[.val (.int p1), .val (.ref b1), .val (.ref b68), .val (.int (0 : Int32)), .val (.ref (A 0)), .val (.ref (A 0))] [])) _
      refine XS.aload X143.here hx rfl (hb hby at_328) rfl rfl ?_
      show Steps p.tables e below (T143.setTop (mkF m 330 #[.val (.int p1), .val (.ref b1), .val (.ref b68), .val (.int (0 : Int32)), .val (.ref (A 0)), .val (.ref (A 0))] [(.ref (A 0))])) _
      refine XS.aloadN X143.here hx rfl (hb hby at_330) rfl rfl ?_
      show Steps p.tables e below (T143.setTop (mkF m 331 #[.val (.int p1), .val (.ref b1), .val (.ref b68), .val (.int (0 : Int32)), .val (.ref (A 0)), .val (.ref (A 0))] [(.ref b68), (.ref (A 0))])) _
      refine XS.iloadN X143.here hx rfl (hb hby at_331) rfl ?_
      show Steps p.tables e below (T143.setTop (mkF m 332 #[.val (.int p1), .val (.ref b1), .val (.ref b68), .val (.int (0 : Int32)), .val (.ref (A 0)), .val (.ref (A 0))] [(.int (0 : Int32)), (.ref b68), (.ref (A 0))])) _
      refine X143.aaload hx (j := (0 : Int32)) (v := (.ref (A 0))) (by rw [e143]; exact Ar144.1) (State.isArrayOf_alike hZ.alike Ar144.2.1) rfl Ar144.2.2 hin144 hat144 (g := (mkF m 332 #[.val (.int p1), .val (.ref b1), .val (.ref b68), .val (.int (0 : Int32)), .val (.ref (A 0)), .val (.ref (A 0))] [(.int (0 : Int32)), (.ref b68), (.ref (A 0))])) rfl rfl (hb hby at_332) _ ?_
      show Steps p.tables e below (T143.setTop (mkF m 333 #[.val (.int p1), .val (.ref b1), .val (.ref b68), .val (.int (0 : Int32)), .val (.ref (A 0)), .val (.ref (A 0))] [(.ref (A 0)), (.ref (A 0))])) _
      refine Jvm.RoadKit.acmp (g := (mkF m 333 #[.val (.int p1), .val (.ref b1), .val (.ref b68), .val (.int (0 : Int32)), .val (.ref (A 0)), .val (.ref (A 0))] [(.ref (A 0)), (.ref (A 0))])) X143 hx rfl rfl rfl (pc0 := 333) (pc' := 338) (same := true) rfl (hb hby at_333) rfl (decide_eq_true rfl) (by decide) (by decide) ?_
      show Steps p.tables e below (T143.setTop (mkF m 338 #[.val (.int p1), .val (.ref b1), .val (.ref b68), .val (.int (0 : Int32)), .val (.ref (A 0)), .val (.ref (A 0))] [])) _
      refine XS.aload X143.here hx rfl (hb hby at_338) rfl rfl ?_
      show Steps p.tables e below (T143.setTop (mkF m 340 #[.val (.int p1), .val (.ref b1), .val (.ref b68), .val (.int (0 : Int32)), .val (.ref (A 0)), .val (.ref (A 0))] [(.ref (A 0))])) _
      refine st145 _ ?_
      show Steps p.tables e below (T145.setTop (mkF m 343 #[.val (.int p1), .val (.ref b1), .val (.ref b68), .val (.int (0 : Int32)), .val (.ref (A 0)), .val (.ref (A 0))] [(.ref (A 0))])) _
      refine XS.aload X145.here hx rfl (hb hby at_343) rfl rfl ?_
      show Steps p.tables e below (T145.setTop (mkF m 345 #[.val (.int p1), .val (.ref b1), .val (.ref b68), .val (.int (0 : Int32)), .val (.ref (A 0)), .val (.ref (A 0))] [(.ref (A 0)), (.ref (A 0))])) _
      refine Jvm.RoadKit.acmp (g := (mkF m 345 #[.val (.int p1), .val (.ref b1), .val (.ref b68), .val (.int (0 : Int32)), .val (.ref (A 0)), .val (.ref (A 0))] [(.ref (A 0)), (.ref (A 0))])) X145 hx rfl rfl rfl (pc0 := 345) (pc' := 348) (same := true) rfl (hb hby at_345) rfl (decide_eq_true rfl) (by decide) (by decide) ?_
      show Steps p.tables e below (T145.setTop (mkF m 348 #[.val (.int p1), .val (.ref b1), .val (.ref b68), .val (.int (0 : Int32)), .val (.ref (A 0)), .val (.ref (A 0))] [])) _
      refine XS.iconst X145.here hx rfl (hb hby at_348) ?_
      show Steps p.tables e below (T145.setTop (mkF m 349 #[.val (.int p1), .val (.ref b1), .val (.ref b68), .val (.int (0 : Int32)), .val (.ref (A 0)), .val (.ref (A 0))] [(.int (1 : Int32))])) _
      refine XS.goto X145.here hx rfl (pc0 := 349) (pc' := 353) rfl (hb hby at_349) (by decide) (by decide) ?_
      show Steps p.tables e below (T145.setTop (mkF m 353 #[.val (.int p1), .val (.ref b1), .val (.ref b68), .val (.int (0 : Int32)), .val (.ref (A 0)), .val (.ref (A 0))] [(.int (1 : Int32))])) _
      exact retN X145 hx (t := .boolean) Bd.returns (by simp) (hb hby at_353) hr
    · show LQ n0 _ T145.heap _
      exact ⟨rfl, N145, trivial⟩
  | 1, _, hk136 =>
    have fx146 : Arv Z h134 b1 k1 (.object "com/example/dongl/dongl/core/ErrorCode") (22 : Int32) [(.ref (A 0)), (.ref (A 1)), (.ref (A 2)), (.ref (A 3)), (.ref (A 4)), (.ref (A 5)), (.ref (A 6)), (.ref (A 7)), (.ref (A 8)), (.ref (A 9)), (.ref (A 10)), (.ref (A 11)), (.ref (A 12)), (.ref (A 13)), (.ref (A 14)), (.ref (A 15)), (.ref (A 16)), (.ref (A 17)), (.ref (A 18)), (.ref (A 19)), (.ref (A 20)), (.ref (A 21))] .null := (((((((((((((((((((((((V67.ext E68).other W71 (Nat.ne_of_lt lt_b1_b68)).other W74 (Nat.ne_of_lt lt_b1_b68)).other W77 (Nat.ne_of_lt lt_b1_b68)).other W80 (Nat.ne_of_lt lt_b1_b68)).other W83 (Nat.ne_of_lt lt_b1_b68)).other W86 (Nat.ne_of_lt lt_b1_b68)).other W89 (Nat.ne_of_lt lt_b1_b68)).other W92 (Nat.ne_of_lt lt_b1_b68)).other W95 (Nat.ne_of_lt lt_b1_b68)).other W98 (Nat.ne_of_lt lt_b1_b68)).other W101 (Nat.ne_of_lt lt_b1_b68)).other W104 (Nat.ne_of_lt lt_b1_b68)).other W107 (Nat.ne_of_lt lt_b1_b68)).other W110 (Nat.ne_of_lt lt_b1_b68)).other W113 (Nat.ne_of_lt lt_b1_b68)).other W116 (Nat.ne_of_lt lt_b1_b68)).other W119 (Nat.ne_of_lt lt_b1_b68)).other W122 (Nat.ne_of_lt lt_b1_b68)).other W125 (Nat.ne_of_lt lt_b1_b68)).other W128 (Nat.ne_of_lt lt_b1_b68)).other W131 (Nat.ne_of_lt lt_b1_b68)).other W134 (Nat.ne_of_lt lt_b1_b68))
    obtain ⟨cl147, Ar147, q147, Sz147, Nn147, Hh147, Gg147⟩ := (id fx146)
    have hin147 : ¬ ((1 : Int32) < 0 ∨ cl147.slots.size ≤ ((1 : Int32)).toNatClampNeg) := inb_of Sz147 ⟨by decide, by decide⟩
    have hat147 : cl147.slots[((1 : Int32)).toNatClampNeg]? = some (.ref (A 1)) := Has.at Hh147 hin147 rfl
    obtain ⟨_, _, ⟨T152, L152, k152, n152⟩, -, X152, ⟨Lc152, hQ152, l152, y152, z152⟩, st152⟩ := Jvm.LawKit.callS X134 hx (y := own_m0) hown (mvT hZ (hw _ (List.mem_of_getElem? (i := 49) rfl))) (mvT hZ (hw _ (List.mem_of_getElem? (i := 50) rfl))) (mvT hZ (hw _ (List.mem_of_getElem? (i := 51) rfl))) (mvT hZ (hw _ (List.mem_of_getElem? (i := 52) rfl))) (by decide) (backOf (W := 0) (rm3 l Z a0 hw [] h134 n0 p1 A K EN OL134) hZ (hw _ (List.mem_of_getElem? (i := 52) rfl)) (hw _ (List.mem_of_getElem? (i := 51) rfl)) (by decide) (by decide)) (g := (mkF m 323 #[.val (.int p1), .val (.ref b1), .val (.ref b68), .val (.int (1 : Int32)), .val (.ref (A 1)), .unset] [(.ref (A 1))])) rfl (by rw [hml]; rfl) (argsL := [(.ref (A 1))]) (rest := []) (lenOf own_pd1 rfl) rfl (by show 2 * 0 + _ ≤ _; exact Nat.le_of_eq rfl) (hb hby at_323) (fun _ _ => ⟨rfl, e134, (by decide : 2 + 0 ≤ _), (by decide : 44 + 0 ≤ _)⟩)
    dsimp only [Pt.U, Pt.locs, Pt.cells, Pt.slots] at X152 l152 y152 z152 st152 hQ152
    replace X152 := own_sub X152 l152 y152 z152
    obtain ⟨rfl, N152q, e152⟩ := hQ152
    have N152 := Fr.app NF134 N152q
    obtain ⟨cl153, Ar153, q153, Sz153, Nn153, Hh153, Gg153⟩ := (id V134)
    have hin153 : ¬ ((1 : Int32) < 0 ∨ cl153.slots.size ≤ ((1 : Int32)).toNatClampNeg) := inb_of Sz153 ⟨by decide, by decide⟩
    have hat153 : cl153.slots[((1 : Int32)).toNatClampNeg]? = some (.ref (A 1)) := Has.at Hh153 hin153 rfl
    obtain ⟨_, _, ⟨T154, L154, k154, n154⟩, -, X154, ⟨Lc154, hQ154, l154, y154, z154⟩, st154⟩ := Jvm.LawKit.callS X152 hx (y := own_m0) hown (mvT hZ (hw _ (List.mem_of_getElem? (i := 49) rfl))) (mvT hZ (hw _ (List.mem_of_getElem? (i := 50) rfl))) (mvT hZ (hw _ (List.mem_of_getElem? (i := 51) rfl))) (mvT hZ (hw _ (List.mem_of_getElem? (i := 52) rfl))) (by decide) (backOf (W := 0) (rm3 l Z a0 hw [] h134 n0 p1 A K EN OL134) hZ (hw _ (List.mem_of_getElem? (i := 52) rfl)) (hw _ (List.mem_of_getElem? (i := 51) rfl)) (by decide) (by decide)) (g := (mkF m 340 #[.val (.int p1), .val (.ref b1), .val (.ref b68), .val (.int (1 : Int32)), .val (.ref (A 1)), .val (.ref (A 1))] [(.ref (A 1))])) rfl (by rw [hml]; rfl) (argsL := [(.ref (A 1))]) (rest := []) (lenOf own_pd1 rfl) rfl (by show 2 * 0 + _ ≤ _; exact Nat.le_of_eq rfl) (hb hby at_340) (fun _ _ => ⟨rfl, e152, (by decide : 2 + 0 ≤ _), (by decide : 44 + 0 ≤ _)⟩)
    dsimp only [Pt.U, Pt.locs, Pt.cells, Pt.slots] at X154 l154 y154 z154 st154 hQ154
    replace X154 := own_sub X154 l154 y154 z154
    obtain ⟨rfl, N154q, e154⟩ := hQ154
    have N154 := Fr.app N152 N154q
    obtain ⟨fs, hr, hrun, hended, hW, hsame⟩ := X154.leave (v := some (.int (1 : Int32))) (fun h => by rw [Bd.returns] at h; cases h)
    refine ⟨_, _, pre135 _ ?_, hrun, hended, _, _, rfl, ?_, ⟨_, rfl⟩, hW, hsame.mono (by decide) (by decide)⟩
    · show Steps p.tables e below (T134.setTop (mkF m 315 #[.val (.int p1), .val (.ref b1), .val (.ref b68), .unset, .unset, .unset] [(.int ((p1 &&& (2147483647 : Int32)) % (22 : Int32)))])) _
      rw [hk136]
      show Steps p.tables e below (T134.setTop (mkF m 315 #[.val (.int p1), .val (.ref b1), .val (.ref b68), .unset, .unset, .unset] [(.int (1 : Int32))])) _
      refine XS.istoreN X134.here hx rfl (hb hby at_315) rfl (l' := #[.val (.int p1), .val (.ref b1), .val (.ref b68), .val (.int (1 : Int32)), .unset, .unset]) rfl ?_
      show Steps p.tables e below (T134.setTop (mkF m 316 #[.val (.int p1), .val (.ref b1), .val (.ref b68), .val (.int (1 : Int32)), .unset, .unset] [])) _
      refine XS.aloadN X134.here hx rfl (hb hby at_316) rfl rfl ?_
      show Steps p.tables e below (T134.setTop (mkF m 317 #[.val (.int p1), .val (.ref b1), .val (.ref b68), .val (.int (1 : Int32)), .unset, .unset] [(.ref b1)])) _
      refine XS.iloadN X134.here hx rfl (hb hby at_317) rfl ?_
      show Steps p.tables e below (T134.setTop (mkF m 318 #[.val (.int p1), .val (.ref b1), .val (.ref b68), .val (.int (1 : Int32)), .unset, .unset] [(.int (1 : Int32)), (.ref b1)])) _
      refine X134.aaload hx (j := (1 : Int32)) (v := (.ref (A 1))) (by rw [e134]; exact Ar147.1) (State.isArrayOf_alike hZ.alike Ar147.2.1) rfl Ar147.2.2 hin147 hat147 (g := (mkF m 318 #[.val (.int p1), .val (.ref b1), .val (.ref b68), .val (.int (1 : Int32)), .unset, .unset] [(.int (1 : Int32)), (.ref b1)])) rfl rfl (hb hby at_318) _ ?_
      show Steps p.tables e below (T134.setTop (mkF m 319 #[.val (.int p1), .val (.ref b1), .val (.ref b68), .val (.int (1 : Int32)), .unset, .unset] [(.ref (A 1))])) _
      refine XS.astore X134.here hx rfl (hb hby at_319) rfl rfl (l' := #[.val (.int p1), .val (.ref b1), .val (.ref b68), .val (.int (1 : Int32)), .val (.ref (A 1)), .unset]) rfl ?_
      show Steps p.tables e below (T134.setTop (mkF m 321 #[.val (.int p1), .val (.ref b1), .val (.ref b68), .val (.int (1 : Int32)), .val (.ref (A 1)), .unset] [])) _
      refine XS.aload X134.here hx rfl (hb hby at_321) rfl rfl ?_
      show Steps p.tables e below (T134.setTop (mkF m 323 #[.val (.int p1), .val (.ref b1), .val (.ref b68), .val (.int (1 : Int32)), .val (.ref (A 1)), .unset] [(.ref (A 1))])) _
      refine st152 _ ?_
      show Steps p.tables e below (T152.setTop (mkF m 326 #[.val (.int p1), .val (.ref b1), .val (.ref b68), .val (.int (1 : Int32)), .val (.ref (A 1)), .unset] [(.ref (A 1))])) _
      refine XS.astore X152.here hx rfl (hb hby at_326) rfl rfl (l' := #[.val (.int p1), .val (.ref b1), .val (.ref b68), .val (.int (1 : Int32)), .val (.ref (A 1)), .val (.ref (A 1))]) rfl ?_
      show Steps p.tables e below (T152.setTop (mkF m 328 #[.val (.int p1), .val (.ref b1), .val (.ref b68), .val (.int (1 : Int32)), .val (.ref (A 1)), .val (.ref (A 1))] [])) _
      refine XS.aload X152.here hx rfl (hb hby at_328) rfl rfl ?_
      show Steps p.tables e below (T152.setTop (mkF m 330 #[.val (.int p1), .val (.ref b1), .val (.ref b68), .val (.int (1 : Int32)), .val (.ref (A 1)), .val (.ref (A 1))] [(.ref (A 1))])) _
      refine XS.aloadN X152.here hx rfl (hb hby at_330) rfl rfl ?_
      show Steps p.tables e below (T152.setTop (mkF m 331 #[.val (.int p1), .val (.ref b1), .val (.ref b68), .val (.int (1 : Int32)), .val (.ref (A 1)), .val (.ref (A 1))] [(.ref b68), (.ref (A 1))])) _
      refine XS.iloadN X152.here hx rfl (hb hby at_331) rfl ?_
      show Steps p.tables e below (T152.setTop (mkF m 332 #[.val (.int p1), .val (.ref b1), .val (.ref b68), .val (.int (1 : Int32)), .val (.ref (A 1)), .val (.ref (A 1))] [(.int (1 : Int32)), (.ref b68), (.ref (A 1))])) _
      refine X152.aaload hx (j := (1 : Int32)) (v := (.ref (A 1))) (by rw [e152]; exact Ar153.1) (State.isArrayOf_alike hZ.alike Ar153.2.1) rfl Ar153.2.2 hin153 hat153 (g := (mkF m 332 #[.val (.int p1), .val (.ref b1), .val (.ref b68), .val (.int (1 : Int32)), .val (.ref (A 1)), .val (.ref (A 1))] [(.int (1 : Int32)), (.ref b68), (.ref (A 1))])) rfl rfl (hb hby at_332) _ ?_
      show Steps p.tables e below (T152.setTop (mkF m 333 #[.val (.int p1), .val (.ref b1), .val (.ref b68), .val (.int (1 : Int32)), .val (.ref (A 1)), .val (.ref (A 1))] [(.ref (A 1)), (.ref (A 1))])) _
      refine Jvm.RoadKit.acmp (g := (mkF m 333 #[.val (.int p1), .val (.ref b1), .val (.ref b68), .val (.int (1 : Int32)), .val (.ref (A 1)), .val (.ref (A 1))] [(.ref (A 1)), (.ref (A 1))])) X152 hx rfl rfl rfl (pc0 := 333) (pc' := 338) (same := true) rfl (hb hby at_333) rfl (decide_eq_true rfl) (by decide) (by decide) ?_
      show Steps p.tables e below (T152.setTop (mkF m 338 #[.val (.int p1), .val (.ref b1), .val (.ref b68), .val (.int (1 : Int32)), .val (.ref (A 1)), .val (.ref (A 1))] [])) _
      refine XS.aload X152.here hx rfl (hb hby at_338) rfl rfl ?_
      show Steps p.tables e below (T152.setTop (mkF m 340 #[.val (.int p1), .val (.ref b1), .val (.ref b68), .val (.int (1 : Int32)), .val (.ref (A 1)), .val (.ref (A 1))] [(.ref (A 1))])) _
      refine st154 _ ?_
      show Steps p.tables e below (T154.setTop (mkF m 343 #[.val (.int p1), .val (.ref b1), .val (.ref b68), .val (.int (1 : Int32)), .val (.ref (A 1)), .val (.ref (A 1))] [(.ref (A 1))])) _
      refine XS.aload X154.here hx rfl (hb hby at_343) rfl rfl ?_
      show Steps p.tables e below (T154.setTop (mkF m 345 #[.val (.int p1), .val (.ref b1), .val (.ref b68), .val (.int (1 : Int32)), .val (.ref (A 1)), .val (.ref (A 1))] [(.ref (A 1)), (.ref (A 1))])) _
      refine Jvm.RoadKit.acmp (g := (mkF m 345 #[.val (.int p1), .val (.ref b1), .val (.ref b68), .val (.int (1 : Int32)), .val (.ref (A 1)), .val (.ref (A 1))] [(.ref (A 1)), (.ref (A 1))])) X154 hx rfl rfl rfl (pc0 := 345) (pc' := 348) (same := true) rfl (hb hby at_345) rfl (decide_eq_true rfl) (by decide) (by decide) ?_
      show Steps p.tables e below (T154.setTop (mkF m 348 #[.val (.int p1), .val (.ref b1), .val (.ref b68), .val (.int (1 : Int32)), .val (.ref (A 1)), .val (.ref (A 1))] [])) _
      refine XS.iconst X154.here hx rfl (hb hby at_348) ?_
      show Steps p.tables e below (T154.setTop (mkF m 349 #[.val (.int p1), .val (.ref b1), .val (.ref b68), .val (.int (1 : Int32)), .val (.ref (A 1)), .val (.ref (A 1))] [(.int (1 : Int32))])) _
      refine XS.goto X154.here hx rfl (pc0 := 349) (pc' := 353) rfl (hb hby at_349) (by decide) (by decide) ?_
      show Steps p.tables e below (T154.setTop (mkF m 353 #[.val (.int p1), .val (.ref b1), .val (.ref b68), .val (.int (1 : Int32)), .val (.ref (A 1)), .val (.ref (A 1))] [(.int (1 : Int32))])) _
      exact retN X154 hx (t := .boolean) Bd.returns (by simp) (hb hby at_353) hr
    · show LQ n0 _ T154.heap _
      exact ⟨rfl, N154, trivial⟩
  | 2, _, hk136 =>
    have fx155 : Arv Z h134 b1 k1 (.object "com/example/dongl/dongl/core/ErrorCode") (22 : Int32) [(.ref (A 0)), (.ref (A 1)), (.ref (A 2)), (.ref (A 3)), (.ref (A 4)), (.ref (A 5)), (.ref (A 6)), (.ref (A 7)), (.ref (A 8)), (.ref (A 9)), (.ref (A 10)), (.ref (A 11)), (.ref (A 12)), (.ref (A 13)), (.ref (A 14)), (.ref (A 15)), (.ref (A 16)), (.ref (A 17)), (.ref (A 18)), (.ref (A 19)), (.ref (A 20)), (.ref (A 21))] .null := (((((((((((((((((((((((V67.ext E68).other W71 (Nat.ne_of_lt lt_b1_b68)).other W74 (Nat.ne_of_lt lt_b1_b68)).other W77 (Nat.ne_of_lt lt_b1_b68)).other W80 (Nat.ne_of_lt lt_b1_b68)).other W83 (Nat.ne_of_lt lt_b1_b68)).other W86 (Nat.ne_of_lt lt_b1_b68)).other W89 (Nat.ne_of_lt lt_b1_b68)).other W92 (Nat.ne_of_lt lt_b1_b68)).other W95 (Nat.ne_of_lt lt_b1_b68)).other W98 (Nat.ne_of_lt lt_b1_b68)).other W101 (Nat.ne_of_lt lt_b1_b68)).other W104 (Nat.ne_of_lt lt_b1_b68)).other W107 (Nat.ne_of_lt lt_b1_b68)).other W110 (Nat.ne_of_lt lt_b1_b68)).other W113 (Nat.ne_of_lt lt_b1_b68)).other W116 (Nat.ne_of_lt lt_b1_b68)).other W119 (Nat.ne_of_lt lt_b1_b68)).other W122 (Nat.ne_of_lt lt_b1_b68)).other W125 (Nat.ne_of_lt lt_b1_b68)).other W128 (Nat.ne_of_lt lt_b1_b68)).other W131 (Nat.ne_of_lt lt_b1_b68)).other W134 (Nat.ne_of_lt lt_b1_b68))
    obtain ⟨cl156, Ar156, q156, Sz156, Nn156, Hh156, Gg156⟩ := (id fx155)
    have hin156 : ¬ ((2 : Int32) < 0 ∨ cl156.slots.size ≤ ((2 : Int32)).toNatClampNeg) := inb_of Sz156 ⟨by decide, by decide⟩
    have hat156 : cl156.slots[((2 : Int32)).toNatClampNeg]? = some (.ref (A 2)) := Has.at Hh156 hin156 rfl
    obtain ⟨_, _, ⟨T161, L161, k161, n161⟩, -, X161, ⟨Lc161, hQ161, l161, y161, z161⟩, st161⟩ := Jvm.LawKit.callS X134 hx (y := own_m0) hown (mvT hZ (hw _ (List.mem_of_getElem? (i := 49) rfl))) (mvT hZ (hw _ (List.mem_of_getElem? (i := 50) rfl))) (mvT hZ (hw _ (List.mem_of_getElem? (i := 51) rfl))) (mvT hZ (hw _ (List.mem_of_getElem? (i := 52) rfl))) (by decide) (backOf (W := 0) (rm5 l Z a0 hw [] h134 n0 p1 A K EN OL134) hZ (hw _ (List.mem_of_getElem? (i := 52) rfl)) (hw _ (List.mem_of_getElem? (i := 51) rfl)) (by decide) (by decide)) (g := (mkF m 323 #[.val (.int p1), .val (.ref b1), .val (.ref b68), .val (.int (2 : Int32)), .val (.ref (A 2)), .unset] [(.ref (A 2))])) rfl (by rw [hml]; rfl) (argsL := [(.ref (A 2))]) (rest := []) (lenOf own_pd1 rfl) rfl (by show 2 * 0 + _ ≤ _; exact Nat.le_of_eq rfl) (hb hby at_323) (fun _ _ => ⟨rfl, e134, (by decide : 2 + 0 ≤ _), (by decide : 44 + 0 ≤ _)⟩)
    dsimp only [Pt.U, Pt.locs, Pt.cells, Pt.slots] at X161 l161 y161 z161 st161 hQ161
    replace X161 := own_sub X161 l161 y161 z161
    obtain ⟨rfl, N161q, e161⟩ := hQ161
    have N161 := Fr.app NF134 N161q
    obtain ⟨cl162, Ar162, q162, Sz162, Nn162, Hh162, Gg162⟩ := (id V134)
    have hin162 : ¬ ((2 : Int32) < 0 ∨ cl162.slots.size ≤ ((2 : Int32)).toNatClampNeg) := inb_of Sz162 ⟨by decide, by decide⟩
    have hat162 : cl162.slots[((2 : Int32)).toNatClampNeg]? = some (.ref (A 2)) := Has.at Hh162 hin162 rfl
    obtain ⟨_, _, ⟨T163, L163, k163, n163⟩, -, X163, ⟨Lc163, hQ163, l163, y163, z163⟩, st163⟩ := Jvm.LawKit.callS X161 hx (y := own_m0) hown (mvT hZ (hw _ (List.mem_of_getElem? (i := 49) rfl))) (mvT hZ (hw _ (List.mem_of_getElem? (i := 50) rfl))) (mvT hZ (hw _ (List.mem_of_getElem? (i := 51) rfl))) (mvT hZ (hw _ (List.mem_of_getElem? (i := 52) rfl))) (by decide) (backOf (W := 0) (rm5 l Z a0 hw [] h134 n0 p1 A K EN OL134) hZ (hw _ (List.mem_of_getElem? (i := 52) rfl)) (hw _ (List.mem_of_getElem? (i := 51) rfl)) (by decide) (by decide)) (g := (mkF m 340 #[.val (.int p1), .val (.ref b1), .val (.ref b68), .val (.int (2 : Int32)), .val (.ref (A 2)), .val (.ref (A 2))] [(.ref (A 2))])) rfl (by rw [hml]; rfl) (argsL := [(.ref (A 2))]) (rest := []) (lenOf own_pd1 rfl) rfl (by show 2 * 0 + _ ≤ _; exact Nat.le_of_eq rfl) (hb hby at_340) (fun _ _ => ⟨rfl, e161, (by decide : 2 + 0 ≤ _), (by decide : 44 + 0 ≤ _)⟩)
    dsimp only [Pt.U, Pt.locs, Pt.cells, Pt.slots] at X163 l163 y163 z163 st163 hQ163
    replace X163 := own_sub X163 l163 y163 z163
    obtain ⟨rfl, N163q, e163⟩ := hQ163
    have N163 := Fr.app N161 N163q
    obtain ⟨fs, hr, hrun, hended, hW, hsame⟩ := X163.leave (v := some (.int (1 : Int32))) (fun h => by rw [Bd.returns] at h; cases h)
    refine ⟨_, _, pre135 _ ?_, hrun, hended, _, _, rfl, ?_, ⟨_, rfl⟩, hW, hsame.mono (by decide) (by decide)⟩
    · show Steps p.tables e below (T134.setTop (mkF m 315 #[.val (.int p1), .val (.ref b1), .val (.ref b68), .unset, .unset, .unset] [(.int ((p1 &&& (2147483647 : Int32)) % (22 : Int32)))])) _
      rw [hk136]
      show Steps p.tables e below (T134.setTop (mkF m 315 #[.val (.int p1), .val (.ref b1), .val (.ref b68), .unset, .unset, .unset] [(.int (2 : Int32))])) _
      refine XS.istoreN X134.here hx rfl (hb hby at_315) rfl (l' := #[.val (.int p1), .val (.ref b1), .val (.ref b68), .val (.int (2 : Int32)), .unset, .unset]) rfl ?_
      show Steps p.tables e below (T134.setTop (mkF m 316 #[.val (.int p1), .val (.ref b1), .val (.ref b68), .val (.int (2 : Int32)), .unset, .unset] [])) _
      refine XS.aloadN X134.here hx rfl (hb hby at_316) rfl rfl ?_
      show Steps p.tables e below (T134.setTop (mkF m 317 #[.val (.int p1), .val (.ref b1), .val (.ref b68), .val (.int (2 : Int32)), .unset, .unset] [(.ref b1)])) _
      refine XS.iloadN X134.here hx rfl (hb hby at_317) rfl ?_
      show Steps p.tables e below (T134.setTop (mkF m 318 #[.val (.int p1), .val (.ref b1), .val (.ref b68), .val (.int (2 : Int32)), .unset, .unset] [(.int (2 : Int32)), (.ref b1)])) _
      refine X134.aaload hx (j := (2 : Int32)) (v := (.ref (A 2))) (by rw [e134]; exact Ar156.1) (State.isArrayOf_alike hZ.alike Ar156.2.1) rfl Ar156.2.2 hin156 hat156 (g := (mkF m 318 #[.val (.int p1), .val (.ref b1), .val (.ref b68), .val (.int (2 : Int32)), .unset, .unset] [(.int (2 : Int32)), (.ref b1)])) rfl rfl (hb hby at_318) _ ?_
      show Steps p.tables e below (T134.setTop (mkF m 319 #[.val (.int p1), .val (.ref b1), .val (.ref b68), .val (.int (2 : Int32)), .unset, .unset] [(.ref (A 2))])) _
      refine XS.astore X134.here hx rfl (hb hby at_319) rfl rfl (l' := #[.val (.int p1), .val (.ref b1), .val (.ref b68), .val (.int (2 : Int32)), .val (.ref (A 2)), .unset]) rfl ?_
      show Steps p.tables e below (T134.setTop (mkF m 321 #[.val (.int p1), .val (.ref b1), .val (.ref b68), .val (.int (2 : Int32)), .val (.ref (A 2)), .unset] [])) _
      refine XS.aload X134.here hx rfl (hb hby at_321) rfl rfl ?_
      show Steps p.tables e below (T134.setTop (mkF m 323 #[.val (.int p1), .val (.ref b1), .val (.ref b68), .val (.int (2 : Int32)), .val (.ref (A 2)), .unset] [(.ref (A 2))])) _
      refine st161 _ ?_
      show Steps p.tables e below (T161.setTop (mkF m 326 #[.val (.int p1), .val (.ref b1), .val (.ref b68), .val (.int (2 : Int32)), .val (.ref (A 2)), .unset] [(.ref (A 2))])) _
      refine XS.astore X161.here hx rfl (hb hby at_326) rfl rfl (l' := #[.val (.int p1), .val (.ref b1), .val (.ref b68), .val (.int (2 : Int32)), .val (.ref (A 2)), .val (.ref (A 2))]) rfl ?_
      show Steps p.tables e below (T161.setTop (mkF m 328 #[.val (.int p1), .val (.ref b1), .val (.ref b68), .val (.int (2 : Int32)), .val (.ref (A 2)), .val (.ref (A 2))] [])) _
      refine XS.aload X161.here hx rfl (hb hby at_328) rfl rfl ?_
      show Steps p.tables e below (T161.setTop (mkF m 330 #[.val (.int p1), .val (.ref b1), .val (.ref b68), .val (.int (2 : Int32)), .val (.ref (A 2)), .val (.ref (A 2))] [(.ref (A 2))])) _
      refine XS.aloadN X161.here hx rfl (hb hby at_330) rfl rfl ?_
      show Steps p.tables e below (T161.setTop (mkF m 331 #[.val (.int p1), .val (.ref b1), .val (.ref b68), .val (.int (2 : Int32)), .val (.ref (A 2)), .val (.ref (A 2))] [(.ref b68), (.ref (A 2))])) _
      refine XS.iloadN X161.here hx rfl (hb hby at_331) rfl ?_
      show Steps p.tables e below (T161.setTop (mkF m 332 #[.val (.int p1), .val (.ref b1), .val (.ref b68), .val (.int (2 : Int32)), .val (.ref (A 2)), .val (.ref (A 2))] [(.int (2 : Int32)), (.ref b68), (.ref (A 2))])) _
      refine X161.aaload hx (j := (2 : Int32)) (v := (.ref (A 2))) (by rw [e161]; exact Ar162.1) (State.isArrayOf_alike hZ.alike Ar162.2.1) rfl Ar162.2.2 hin162 hat162 (g := (mkF m 332 #[.val (.int p1), .val (.ref b1), .val (.ref b68), .val (.int (2 : Int32)), .val (.ref (A 2)), .val (.ref (A 2))] [(.int (2 : Int32)), (.ref b68), (.ref (A 2))])) rfl rfl (hb hby at_332) _ ?_
      show Steps p.tables e below (T161.setTop (mkF m 333 #[.val (.int p1), .val (.ref b1), .val (.ref b68), .val (.int (2 : Int32)), .val (.ref (A 2)), .val (.ref (A 2))] [(.ref (A 2)), (.ref (A 2))])) _
      refine Jvm.RoadKit.acmp (g := (mkF m 333 #[.val (.int p1), .val (.ref b1), .val (.ref b68), .val (.int (2 : Int32)), .val (.ref (A 2)), .val (.ref (A 2))] [(.ref (A 2)), (.ref (A 2))])) X161 hx rfl rfl rfl (pc0 := 333) (pc' := 338) (same := true) rfl (hb hby at_333) rfl (decide_eq_true rfl) (by decide) (by decide) ?_
      show Steps p.tables e below (T161.setTop (mkF m 338 #[.val (.int p1), .val (.ref b1), .val (.ref b68), .val (.int (2 : Int32)), .val (.ref (A 2)), .val (.ref (A 2))] [])) _
      refine XS.aload X161.here hx rfl (hb hby at_338) rfl rfl ?_
      show Steps p.tables e below (T161.setTop (mkF m 340 #[.val (.int p1), .val (.ref b1), .val (.ref b68), .val (.int (2 : Int32)), .val (.ref (A 2)), .val (.ref (A 2))] [(.ref (A 2))])) _
      refine st163 _ ?_
      show Steps p.tables e below (T163.setTop (mkF m 343 #[.val (.int p1), .val (.ref b1), .val (.ref b68), .val (.int (2 : Int32)), .val (.ref (A 2)), .val (.ref (A 2))] [(.ref (A 2))])) _
      refine XS.aload X163.here hx rfl (hb hby at_343) rfl rfl ?_
      show Steps p.tables e below (T163.setTop (mkF m 345 #[.val (.int p1), .val (.ref b1), .val (.ref b68), .val (.int (2 : Int32)), .val (.ref (A 2)), .val (.ref (A 2))] [(.ref (A 2)), (.ref (A 2))])) _
      refine Jvm.RoadKit.acmp (g := (mkF m 345 #[.val (.int p1), .val (.ref b1), .val (.ref b68), .val (.int (2 : Int32)), .val (.ref (A 2)), .val (.ref (A 2))] [(.ref (A 2)), (.ref (A 2))])) X163 hx rfl rfl rfl (pc0 := 345) (pc' := 348) (same := true) rfl (hb hby at_345) rfl (decide_eq_true rfl) (by decide) (by decide) ?_
      show Steps p.tables e below (T163.setTop (mkF m 348 #[.val (.int p1), .val (.ref b1), .val (.ref b68), .val (.int (2 : Int32)), .val (.ref (A 2)), .val (.ref (A 2))] [])) _
      refine XS.iconst X163.here hx rfl (hb hby at_348) ?_
      show Steps p.tables e below (T163.setTop (mkF m 349 #[.val (.int p1), .val (.ref b1), .val (.ref b68), .val (.int (2 : Int32)), .val (.ref (A 2)), .val (.ref (A 2))] [(.int (1 : Int32))])) _
      refine XS.goto X163.here hx rfl (pc0 := 349) (pc' := 353) rfl (hb hby at_349) (by decide) (by decide) ?_
      show Steps p.tables e below (T163.setTop (mkF m 353 #[.val (.int p1), .val (.ref b1), .val (.ref b68), .val (.int (2 : Int32)), .val (.ref (A 2)), .val (.ref (A 2))] [(.int (1 : Int32))])) _
      exact retN X163 hx (t := .boolean) Bd.returns (by simp) (hb hby at_353) hr
    · show LQ n0 _ T163.heap _
      exact ⟨rfl, N163, trivial⟩
  | 3, _, hk136 =>
    have fx164 : Arv Z h134 b1 k1 (.object "com/example/dongl/dongl/core/ErrorCode") (22 : Int32) [(.ref (A 0)), (.ref (A 1)), (.ref (A 2)), (.ref (A 3)), (.ref (A 4)), (.ref (A 5)), (.ref (A 6)), (.ref (A 7)), (.ref (A 8)), (.ref (A 9)), (.ref (A 10)), (.ref (A 11)), (.ref (A 12)), (.ref (A 13)), (.ref (A 14)), (.ref (A 15)), (.ref (A 16)), (.ref (A 17)), (.ref (A 18)), (.ref (A 19)), (.ref (A 20)), (.ref (A 21))] .null := (((((((((((((((((((((((V67.ext E68).other W71 (Nat.ne_of_lt lt_b1_b68)).other W74 (Nat.ne_of_lt lt_b1_b68)).other W77 (Nat.ne_of_lt lt_b1_b68)).other W80 (Nat.ne_of_lt lt_b1_b68)).other W83 (Nat.ne_of_lt lt_b1_b68)).other W86 (Nat.ne_of_lt lt_b1_b68)).other W89 (Nat.ne_of_lt lt_b1_b68)).other W92 (Nat.ne_of_lt lt_b1_b68)).other W95 (Nat.ne_of_lt lt_b1_b68)).other W98 (Nat.ne_of_lt lt_b1_b68)).other W101 (Nat.ne_of_lt lt_b1_b68)).other W104 (Nat.ne_of_lt lt_b1_b68)).other W107 (Nat.ne_of_lt lt_b1_b68)).other W110 (Nat.ne_of_lt lt_b1_b68)).other W113 (Nat.ne_of_lt lt_b1_b68)).other W116 (Nat.ne_of_lt lt_b1_b68)).other W119 (Nat.ne_of_lt lt_b1_b68)).other W122 (Nat.ne_of_lt lt_b1_b68)).other W125 (Nat.ne_of_lt lt_b1_b68)).other W128 (Nat.ne_of_lt lt_b1_b68)).other W131 (Nat.ne_of_lt lt_b1_b68)).other W134 (Nat.ne_of_lt lt_b1_b68))
    obtain ⟨cl165, Ar165, q165, Sz165, Nn165, Hh165, Gg165⟩ := (id fx164)
    have hin165 : ¬ ((3 : Int32) < 0 ∨ cl165.slots.size ≤ ((3 : Int32)).toNatClampNeg) := inb_of Sz165 ⟨by decide, by decide⟩
    have hat165 : cl165.slots[((3 : Int32)).toNatClampNeg]? = some (.ref (A 3)) := Has.at Hh165 hin165 rfl
    obtain ⟨_, _, ⟨T171, L171, k171, n171⟩, -, X171, ⟨Lc171, hQ171, l171, y171, z171⟩, st171⟩ := Jvm.LawKit.callS X134 hx (y := own_m0) hown (mvT hZ (hw _ (List.mem_of_getElem? (i := 49) rfl))) (mvT hZ (hw _ (List.mem_of_getElem? (i := 50) rfl))) (mvT hZ (hw _ (List.mem_of_getElem? (i := 51) rfl))) (mvT hZ (hw _ (List.mem_of_getElem? (i := 52) rfl))) (by decide) (backOf (W := 0) (rm7 l Z a0 hw [] h134 n0 p1 A K EN OL134) hZ (hw _ (List.mem_of_getElem? (i := 52) rfl)) (hw _ (List.mem_of_getElem? (i := 51) rfl)) (by decide) (by decide)) (g := (mkF m 323 #[.val (.int p1), .val (.ref b1), .val (.ref b68), .val (.int (3 : Int32)), .val (.ref (A 3)), .unset] [(.ref (A 3))])) rfl (by rw [hml]; rfl) (argsL := [(.ref (A 3))]) (rest := []) (lenOf own_pd1 rfl) rfl (by show 2 * 0 + _ ≤ _; exact Nat.le_of_eq rfl) (hb hby at_323) (fun _ _ => ⟨rfl, e134, (by decide : 2 + 0 ≤ _), (by decide : 44 + 0 ≤ _)⟩)
    dsimp only [Pt.U, Pt.locs, Pt.cells, Pt.slots] at X171 l171 y171 z171 st171 hQ171
    replace X171 := own_sub X171 l171 y171 z171
    obtain ⟨rfl, N171q, e171⟩ := hQ171
    have N171 := Fr.app NF134 N171q
    obtain ⟨cl172, Ar172, q172, Sz172, Nn172, Hh172, Gg172⟩ := (id V134)
    have hin172 : ¬ ((3 : Int32) < 0 ∨ cl172.slots.size ≤ ((3 : Int32)).toNatClampNeg) := inb_of Sz172 ⟨by decide, by decide⟩
    have hat172 : cl172.slots[((3 : Int32)).toNatClampNeg]? = some (.ref (A 20)) := Has.at Hh172 hin172 rfl
    obtain ⟨_, _, ⟨T177, L177, k177, n177⟩, -, X177, ⟨Lc177, hQ177, l177, y177, z177⟩, st177⟩ := Jvm.LawKit.callS X171 hx (y := own_m0) hown (mvT hZ (hw _ (List.mem_of_getElem? (i := 49) rfl))) (mvT hZ (hw _ (List.mem_of_getElem? (i := 50) rfl))) (mvT hZ (hw _ (List.mem_of_getElem? (i := 51) rfl))) (mvT hZ (hw _ (List.mem_of_getElem? (i := 52) rfl))) (by decide) (backOf (W := 0) (rm9 l Z a0 hw [] h134 n0 p1 A K EN OL134) hZ (hw _ (List.mem_of_getElem? (i := 52) rfl)) (hw _ (List.mem_of_getElem? (i := 51) rfl)) (by decide) (by decide)) (g := (mkF m 340 #[.val (.int p1), .val (.ref b1), .val (.ref b68), .val (.int (3 : Int32)), .val (.ref (A 3)), .val (.ref (A 20))] [(.ref (A 20))])) rfl (by rw [hml]; rfl) (argsL := [(.ref (A 20))]) (rest := []) (lenOf own_pd1 rfl) rfl (by show 2 * 0 + _ ≤ _; exact Nat.le_of_eq rfl) (hb hby at_340) (fun _ _ => ⟨rfl, e171, (by decide : 2 + 0 ≤ _), (by decide : 44 + 0 ≤ _)⟩)
    dsimp only [Pt.U, Pt.locs, Pt.cells, Pt.slots] at X177 l177 y177 z177 st177 hQ177
    replace X177 := own_sub X177 l177 y177 z177
    obtain ⟨rfl, N177q, e177⟩ := hQ177
    have N177 := Fr.app N171 N177q
    obtain ⟨fs, hr, hrun, hended, hW, hsame⟩ := X177.leave (v := some (.int (1 : Int32))) (fun h => by rw [Bd.returns] at h; cases h)
    refine ⟨_, _, pre135 _ ?_, hrun, hended, _, _, rfl, ?_, ⟨_, rfl⟩, hW, hsame.mono (by decide) (by decide)⟩
    · show Steps p.tables e below (T134.setTop (mkF m 315 #[.val (.int p1), .val (.ref b1), .val (.ref b68), .unset, .unset, .unset] [(.int ((p1 &&& (2147483647 : Int32)) % (22 : Int32)))])) _
      rw [hk136]
      show Steps p.tables e below (T134.setTop (mkF m 315 #[.val (.int p1), .val (.ref b1), .val (.ref b68), .unset, .unset, .unset] [(.int (3 : Int32))])) _
      refine XS.istoreN X134.here hx rfl (hb hby at_315) rfl (l' := #[.val (.int p1), .val (.ref b1), .val (.ref b68), .val (.int (3 : Int32)), .unset, .unset]) rfl ?_
      show Steps p.tables e below (T134.setTop (mkF m 316 #[.val (.int p1), .val (.ref b1), .val (.ref b68), .val (.int (3 : Int32)), .unset, .unset] [])) _
      refine XS.aloadN X134.here hx rfl (hb hby at_316) rfl rfl ?_
      show Steps p.tables e below (T134.setTop (mkF m 317 #[.val (.int p1), .val (.ref b1), .val (.ref b68), .val (.int (3 : Int32)), .unset, .unset] [(.ref b1)])) _
      refine XS.iloadN X134.here hx rfl (hb hby at_317) rfl ?_
      show Steps p.tables e below (T134.setTop (mkF m 318 #[.val (.int p1), .val (.ref b1), .val (.ref b68), .val (.int (3 : Int32)), .unset, .unset] [(.int (3 : Int32)), (.ref b1)])) _
      refine X134.aaload hx (j := (3 : Int32)) (v := (.ref (A 3))) (by rw [e134]; exact Ar165.1) (State.isArrayOf_alike hZ.alike Ar165.2.1) rfl Ar165.2.2 hin165 hat165 (g := (mkF m 318 #[.val (.int p1), .val (.ref b1), .val (.ref b68), .val (.int (3 : Int32)), .unset, .unset] [(.int (3 : Int32)), (.ref b1)])) rfl rfl (hb hby at_318) _ ?_
      show Steps p.tables e below (T134.setTop (mkF m 319 #[.val (.int p1), .val (.ref b1), .val (.ref b68), .val (.int (3 : Int32)), .unset, .unset] [(.ref (A 3))])) _
      refine XS.astore X134.here hx rfl (hb hby at_319) rfl rfl (l' := #[.val (.int p1), .val (.ref b1), .val (.ref b68), .val (.int (3 : Int32)), .val (.ref (A 3)), .unset]) rfl ?_
      show Steps p.tables e below (T134.setTop (mkF m 321 #[.val (.int p1), .val (.ref b1), .val (.ref b68), .val (.int (3 : Int32)), .val (.ref (A 3)), .unset] [])) _
      refine XS.aload X134.here hx rfl (hb hby at_321) rfl rfl ?_
      show Steps p.tables e below (T134.setTop (mkF m 323 #[.val (.int p1), .val (.ref b1), .val (.ref b68), .val (.int (3 : Int32)), .val (.ref (A 3)), .unset] [(.ref (A 3))])) _
      refine st171 _ ?_
      show Steps p.tables e below (T171.setTop (mkF m 326 #[.val (.int p1), .val (.ref b1), .val (.ref b68), .val (.int (3 : Int32)), .val (.ref (A 3)), .unset] [(.ref (A 20))])) _
      refine XS.astore X171.here hx rfl (hb hby at_326) rfl rfl (l' := #[.val (.int p1), .val (.ref b1), .val (.ref b68), .val (.int (3 : Int32)), .val (.ref (A 3)), .val (.ref (A 20))]) rfl ?_
      show Steps p.tables e below (T171.setTop (mkF m 328 #[.val (.int p1), .val (.ref b1), .val (.ref b68), .val (.int (3 : Int32)), .val (.ref (A 3)), .val (.ref (A 20))] [])) _
      refine XS.aload X171.here hx rfl (hb hby at_328) rfl rfl ?_
      show Steps p.tables e below (T171.setTop (mkF m 330 #[.val (.int p1), .val (.ref b1), .val (.ref b68), .val (.int (3 : Int32)), .val (.ref (A 3)), .val (.ref (A 20))] [(.ref (A 20))])) _
      refine XS.aloadN X171.here hx rfl (hb hby at_330) rfl rfl ?_
      show Steps p.tables e below (T171.setTop (mkF m 331 #[.val (.int p1), .val (.ref b1), .val (.ref b68), .val (.int (3 : Int32)), .val (.ref (A 3)), .val (.ref (A 20))] [(.ref b68), (.ref (A 20))])) _
      refine XS.iloadN X171.here hx rfl (hb hby at_331) rfl ?_
      show Steps p.tables e below (T171.setTop (mkF m 332 #[.val (.int p1), .val (.ref b1), .val (.ref b68), .val (.int (3 : Int32)), .val (.ref (A 3)), .val (.ref (A 20))] [(.int (3 : Int32)), (.ref b68), (.ref (A 20))])) _
      refine X171.aaload hx (j := (3 : Int32)) (v := (.ref (A 20))) (by rw [e171]; exact Ar172.1) (State.isArrayOf_alike hZ.alike Ar172.2.1) rfl Ar172.2.2 hin172 hat172 (g := (mkF m 332 #[.val (.int p1), .val (.ref b1), .val (.ref b68), .val (.int (3 : Int32)), .val (.ref (A 3)), .val (.ref (A 20))] [(.int (3 : Int32)), (.ref b68), (.ref (A 20))])) rfl rfl (hb hby at_332) _ ?_
      show Steps p.tables e below (T171.setTop (mkF m 333 #[.val (.int p1), .val (.ref b1), .val (.ref b68), .val (.int (3 : Int32)), .val (.ref (A 3)), .val (.ref (A 20))] [(.ref (A 20)), (.ref (A 20))])) _
      refine Jvm.RoadKit.acmp (g := (mkF m 333 #[.val (.int p1), .val (.ref b1), .val (.ref b68), .val (.int (3 : Int32)), .val (.ref (A 3)), .val (.ref (A 20))] [(.ref (A 20)), (.ref (A 20))])) X171 hx rfl rfl rfl (pc0 := 333) (pc' := 338) (same := true) rfl (hb hby at_333) rfl (decide_eq_true rfl) (by decide) (by decide) ?_
      show Steps p.tables e below (T171.setTop (mkF m 338 #[.val (.int p1), .val (.ref b1), .val (.ref b68), .val (.int (3 : Int32)), .val (.ref (A 3)), .val (.ref (A 20))] [])) _
      refine XS.aload X171.here hx rfl (hb hby at_338) rfl rfl ?_
      show Steps p.tables e below (T171.setTop (mkF m 340 #[.val (.int p1), .val (.ref b1), .val (.ref b68), .val (.int (3 : Int32)), .val (.ref (A 3)), .val (.ref (A 20))] [(.ref (A 20))])) _
      refine st177 _ ?_
      show Steps p.tables e below (T177.setTop (mkF m 343 #[.val (.int p1), .val (.ref b1), .val (.ref b68), .val (.int (3 : Int32)), .val (.ref (A 3)), .val (.ref (A 20))] [(.ref (A 20))])) _
      refine XS.aload X177.here hx rfl (hb hby at_343) rfl rfl ?_
      show Steps p.tables e below (T177.setTop (mkF m 345 #[.val (.int p1), .val (.ref b1), .val (.ref b68), .val (.int (3 : Int32)), .val (.ref (A 3)), .val (.ref (A 20))] [(.ref (A 20)), (.ref (A 20))])) _
      refine Jvm.RoadKit.acmp (g := (mkF m 345 #[.val (.int p1), .val (.ref b1), .val (.ref b68), .val (.int (3 : Int32)), .val (.ref (A 3)), .val (.ref (A 20))] [(.ref (A 20)), (.ref (A 20))])) X177 hx rfl rfl rfl (pc0 := 345) (pc' := 348) (same := true) rfl (hb hby at_345) rfl (decide_eq_true rfl) (by decide) (by decide) ?_
      show Steps p.tables e below (T177.setTop (mkF m 348 #[.val (.int p1), .val (.ref b1), .val (.ref b68), .val (.int (3 : Int32)), .val (.ref (A 3)), .val (.ref (A 20))] [])) _
      refine XS.iconst X177.here hx rfl (hb hby at_348) ?_
      show Steps p.tables e below (T177.setTop (mkF m 349 #[.val (.int p1), .val (.ref b1), .val (.ref b68), .val (.int (3 : Int32)), .val (.ref (A 3)), .val (.ref (A 20))] [(.int (1 : Int32))])) _
      refine XS.goto X177.here hx rfl (pc0 := 349) (pc' := 353) rfl (hb hby at_349) (by decide) (by decide) ?_
      show Steps p.tables e below (T177.setTop (mkF m 353 #[.val (.int p1), .val (.ref b1), .val (.ref b68), .val (.int (3 : Int32)), .val (.ref (A 3)), .val (.ref (A 20))] [(.int (1 : Int32))])) _
      exact retN X177 hx (t := .boolean) Bd.returns (by simp) (hb hby at_353) hr
    · show LQ n0 _ T177.heap _
      exact ⟨rfl, N177, trivial⟩
  | 4, _, hk136 =>
    have fx178 : Arv Z h134 b1 k1 (.object "com/example/dongl/dongl/core/ErrorCode") (22 : Int32) [(.ref (A 0)), (.ref (A 1)), (.ref (A 2)), (.ref (A 3)), (.ref (A 4)), (.ref (A 5)), (.ref (A 6)), (.ref (A 7)), (.ref (A 8)), (.ref (A 9)), (.ref (A 10)), (.ref (A 11)), (.ref (A 12)), (.ref (A 13)), (.ref (A 14)), (.ref (A 15)), (.ref (A 16)), (.ref (A 17)), (.ref (A 18)), (.ref (A 19)), (.ref (A 20)), (.ref (A 21))] .null := (((((((((((((((((((((((V67.ext E68).other W71 (Nat.ne_of_lt lt_b1_b68)).other W74 (Nat.ne_of_lt lt_b1_b68)).other W77 (Nat.ne_of_lt lt_b1_b68)).other W80 (Nat.ne_of_lt lt_b1_b68)).other W83 (Nat.ne_of_lt lt_b1_b68)).other W86 (Nat.ne_of_lt lt_b1_b68)).other W89 (Nat.ne_of_lt lt_b1_b68)).other W92 (Nat.ne_of_lt lt_b1_b68)).other W95 (Nat.ne_of_lt lt_b1_b68)).other W98 (Nat.ne_of_lt lt_b1_b68)).other W101 (Nat.ne_of_lt lt_b1_b68)).other W104 (Nat.ne_of_lt lt_b1_b68)).other W107 (Nat.ne_of_lt lt_b1_b68)).other W110 (Nat.ne_of_lt lt_b1_b68)).other W113 (Nat.ne_of_lt lt_b1_b68)).other W116 (Nat.ne_of_lt lt_b1_b68)).other W119 (Nat.ne_of_lt lt_b1_b68)).other W122 (Nat.ne_of_lt lt_b1_b68)).other W125 (Nat.ne_of_lt lt_b1_b68)).other W128 (Nat.ne_of_lt lt_b1_b68)).other W131 (Nat.ne_of_lt lt_b1_b68)).other W134 (Nat.ne_of_lt lt_b1_b68))
    obtain ⟨cl179, Ar179, q179, Sz179, Nn179, Hh179, Gg179⟩ := (id fx178)
    have hin179 : ¬ ((4 : Int32) < 0 ∨ cl179.slots.size ≤ ((4 : Int32)).toNatClampNeg) := inb_of Sz179 ⟨by decide, by decide⟩
    have hat179 : cl179.slots[((4 : Int32)).toNatClampNeg]? = some (.ref (A 4)) := Has.at Hh179 hin179 rfl
    obtain ⟨_, _, ⟨T184, L184, k184, n184⟩, -, X184, ⟨Lc184, hQ184, l184, y184, z184⟩, st184⟩ := Jvm.LawKit.callS X134 hx (y := own_m0) hown (mvT hZ (hw _ (List.mem_of_getElem? (i := 49) rfl))) (mvT hZ (hw _ (List.mem_of_getElem? (i := 50) rfl))) (mvT hZ (hw _ (List.mem_of_getElem? (i := 51) rfl))) (mvT hZ (hw _ (List.mem_of_getElem? (i := 52) rfl))) (by decide) (backOf (W := 0) (rm11 l Z a0 hw [] h134 n0 p1 A K EN OL134) hZ (hw _ (List.mem_of_getElem? (i := 52) rfl)) (hw _ (List.mem_of_getElem? (i := 51) rfl)) (by decide) (by decide)) (g := (mkF m 323 #[.val (.int p1), .val (.ref b1), .val (.ref b68), .val (.int (4 : Int32)), .val (.ref (A 4)), .unset] [(.ref (A 4))])) rfl (by rw [hml]; rfl) (argsL := [(.ref (A 4))]) (rest := []) (lenOf own_pd1 rfl) rfl (by show 2 * 0 + _ ≤ _; exact Nat.le_of_eq rfl) (hb hby at_323) (fun _ _ => ⟨rfl, e134, (by decide : 2 + 0 ≤ _), (by decide : 44 + 0 ≤ _)⟩)
    dsimp only [Pt.U, Pt.locs, Pt.cells, Pt.slots] at X184 l184 y184 z184 st184 hQ184
    replace X184 := own_sub X184 l184 y184 z184
    obtain ⟨rfl, N184q, e184⟩ := hQ184
    have N184 := Fr.app NF134 N184q
    obtain ⟨cl185, Ar185, q185, Sz185, Nn185, Hh185, Gg185⟩ := (id V134)
    have hin185 : ¬ ((4 : Int32) < 0 ∨ cl185.slots.size ≤ ((4 : Int32)).toNatClampNeg) := inb_of Sz185 ⟨by decide, by decide⟩
    have hat185 : cl185.slots[((4 : Int32)).toNatClampNeg]? = some (.ref (A 4)) := Has.at Hh185 hin185 rfl
    obtain ⟨_, _, ⟨T186, L186, k186, n186⟩, -, X186, ⟨Lc186, hQ186, l186, y186, z186⟩, st186⟩ := Jvm.LawKit.callS X184 hx (y := own_m0) hown (mvT hZ (hw _ (List.mem_of_getElem? (i := 49) rfl))) (mvT hZ (hw _ (List.mem_of_getElem? (i := 50) rfl))) (mvT hZ (hw _ (List.mem_of_getElem? (i := 51) rfl))) (mvT hZ (hw _ (List.mem_of_getElem? (i := 52) rfl))) (by decide) (backOf (W := 0) (rm11 l Z a0 hw [] h134 n0 p1 A K EN OL134) hZ (hw _ (List.mem_of_getElem? (i := 52) rfl)) (hw _ (List.mem_of_getElem? (i := 51) rfl)) (by decide) (by decide)) (g := (mkF m 340 #[.val (.int p1), .val (.ref b1), .val (.ref b68), .val (.int (4 : Int32)), .val (.ref (A 4)), .val (.ref (A 4))] [(.ref (A 4))])) rfl (by rw [hml]; rfl) (argsL := [(.ref (A 4))]) (rest := []) (lenOf own_pd1 rfl) rfl (by show 2 * 0 + _ ≤ _; exact Nat.le_of_eq rfl) (hb hby at_340) (fun _ _ => ⟨rfl, e184, (by decide : 2 + 0 ≤ _), (by decide : 44 + 0 ≤ _)⟩)
    dsimp only [Pt.U, Pt.locs, Pt.cells, Pt.slots] at X186 l186 y186 z186 st186 hQ186
    replace X186 := own_sub X186 l186 y186 z186
    obtain ⟨rfl, N186q, e186⟩ := hQ186
    have N186 := Fr.app N184 N186q
    obtain ⟨fs, hr, hrun, hended, hW, hsame⟩ := X186.leave (v := some (.int (1 : Int32))) (fun h => by rw [Bd.returns] at h; cases h)
    refine ⟨_, _, pre135 _ ?_, hrun, hended, _, _, rfl, ?_, ⟨_, rfl⟩, hW, hsame.mono (by decide) (by decide)⟩
    · show Steps p.tables e below (T134.setTop (mkF m 315 #[.val (.int p1), .val (.ref b1), .val (.ref b68), .unset, .unset, .unset] [(.int ((p1 &&& (2147483647 : Int32)) % (22 : Int32)))])) _
      rw [hk136]
      show Steps p.tables e below (T134.setTop (mkF m 315 #[.val (.int p1), .val (.ref b1), .val (.ref b68), .unset, .unset, .unset] [(.int (4 : Int32))])) _
      refine XS.istoreN X134.here hx rfl (hb hby at_315) rfl (l' := #[.val (.int p1), .val (.ref b1), .val (.ref b68), .val (.int (4 : Int32)), .unset, .unset]) rfl ?_
      show Steps p.tables e below (T134.setTop (mkF m 316 #[.val (.int p1), .val (.ref b1), .val (.ref b68), .val (.int (4 : Int32)), .unset, .unset] [])) _
      refine XS.aloadN X134.here hx rfl (hb hby at_316) rfl rfl ?_
      show Steps p.tables e below (T134.setTop (mkF m 317 #[.val (.int p1), .val (.ref b1), .val (.ref b68), .val (.int (4 : Int32)), .unset, .unset] [(.ref b1)])) _
      refine XS.iloadN X134.here hx rfl (hb hby at_317) rfl ?_
      show Steps p.tables e below (T134.setTop (mkF m 318 #[.val (.int p1), .val (.ref b1), .val (.ref b68), .val (.int (4 : Int32)), .unset, .unset] [(.int (4 : Int32)), (.ref b1)])) _
      refine X134.aaload hx (j := (4 : Int32)) (v := (.ref (A 4))) (by rw [e134]; exact Ar179.1) (State.isArrayOf_alike hZ.alike Ar179.2.1) rfl Ar179.2.2 hin179 hat179 (g := (mkF m 318 #[.val (.int p1), .val (.ref b1), .val (.ref b68), .val (.int (4 : Int32)), .unset, .unset] [(.int (4 : Int32)), (.ref b1)])) rfl rfl (hb hby at_318) _ ?_
      show Steps p.tables e below (T134.setTop (mkF m 319 #[.val (.int p1), .val (.ref b1), .val (.ref b68), .val (.int (4 : Int32)), .unset, .unset] [(.ref (A 4))])) _
      refine XS.astore X134.here hx rfl (hb hby at_319) rfl rfl (l' := #[.val (.int p1), .val (.ref b1), .val (.ref b68), .val (.int (4 : Int32)), .val (.ref (A 4)), .unset]) rfl ?_
      show Steps p.tables e below (T134.setTop (mkF m 321 #[.val (.int p1), .val (.ref b1), .val (.ref b68), .val (.int (4 : Int32)), .val (.ref (A 4)), .unset] [])) _
      refine XS.aload X134.here hx rfl (hb hby at_321) rfl rfl ?_
      show Steps p.tables e below (T134.setTop (mkF m 323 #[.val (.int p1), .val (.ref b1), .val (.ref b68), .val (.int (4 : Int32)), .val (.ref (A 4)), .unset] [(.ref (A 4))])) _
      refine st184 _ ?_
      show Steps p.tables e below (T184.setTop (mkF m 326 #[.val (.int p1), .val (.ref b1), .val (.ref b68), .val (.int (4 : Int32)), .val (.ref (A 4)), .unset] [(.ref (A 4))])) _
      refine XS.astore X184.here hx rfl (hb hby at_326) rfl rfl (l' := #[.val (.int p1), .val (.ref b1), .val (.ref b68), .val (.int (4 : Int32)), .val (.ref (A 4)), .val (.ref (A 4))]) rfl ?_
      show Steps p.tables e below (T184.setTop (mkF m 328 #[.val (.int p1), .val (.ref b1), .val (.ref b68), .val (.int (4 : Int32)), .val (.ref (A 4)), .val (.ref (A 4))] [])) _
      refine XS.aload X184.here hx rfl (hb hby at_328) rfl rfl ?_
      show Steps p.tables e below (T184.setTop (mkF m 330 #[.val (.int p1), .val (.ref b1), .val (.ref b68), .val (.int (4 : Int32)), .val (.ref (A 4)), .val (.ref (A 4))] [(.ref (A 4))])) _
      refine XS.aloadN X184.here hx rfl (hb hby at_330) rfl rfl ?_
      show Steps p.tables e below (T184.setTop (mkF m 331 #[.val (.int p1), .val (.ref b1), .val (.ref b68), .val (.int (4 : Int32)), .val (.ref (A 4)), .val (.ref (A 4))] [(.ref b68), (.ref (A 4))])) _
      refine XS.iloadN X184.here hx rfl (hb hby at_331) rfl ?_
      show Steps p.tables e below (T184.setTop (mkF m 332 #[.val (.int p1), .val (.ref b1), .val (.ref b68), .val (.int (4 : Int32)), .val (.ref (A 4)), .val (.ref (A 4))] [(.int (4 : Int32)), (.ref b68), (.ref (A 4))])) _
      refine X184.aaload hx (j := (4 : Int32)) (v := (.ref (A 4))) (by rw [e184]; exact Ar185.1) (State.isArrayOf_alike hZ.alike Ar185.2.1) rfl Ar185.2.2 hin185 hat185 (g := (mkF m 332 #[.val (.int p1), .val (.ref b1), .val (.ref b68), .val (.int (4 : Int32)), .val (.ref (A 4)), .val (.ref (A 4))] [(.int (4 : Int32)), (.ref b68), (.ref (A 4))])) rfl rfl (hb hby at_332) _ ?_
      show Steps p.tables e below (T184.setTop (mkF m 333 #[.val (.int p1), .val (.ref b1), .val (.ref b68), .val (.int (4 : Int32)), .val (.ref (A 4)), .val (.ref (A 4))] [(.ref (A 4)), (.ref (A 4))])) _
      refine Jvm.RoadKit.acmp (g := (mkF m 333 #[.val (.int p1), .val (.ref b1), .val (.ref b68), .val (.int (4 : Int32)), .val (.ref (A 4)), .val (.ref (A 4))] [(.ref (A 4)), (.ref (A 4))])) X184 hx rfl rfl rfl (pc0 := 333) (pc' := 338) (same := true) rfl (hb hby at_333) rfl (decide_eq_true rfl) (by decide) (by decide) ?_
      show Steps p.tables e below (T184.setTop (mkF m 338 #[.val (.int p1), .val (.ref b1), .val (.ref b68), .val (.int (4 : Int32)), .val (.ref (A 4)), .val (.ref (A 4))] [])) _
      refine XS.aload X184.here hx rfl (hb hby at_338) rfl rfl ?_
      show Steps p.tables e below (T184.setTop (mkF m 340 #[.val (.int p1), .val (.ref b1), .val (.ref b68), .val (.int (4 : Int32)), .val (.ref (A 4)), .val (.ref (A 4))] [(.ref (A 4))])) _
      refine st186 _ ?_
      show Steps p.tables e below (T186.setTop (mkF m 343 #[.val (.int p1), .val (.ref b1), .val (.ref b68), .val (.int (4 : Int32)), .val (.ref (A 4)), .val (.ref (A 4))] [(.ref (A 4))])) _
      refine XS.aload X186.here hx rfl (hb hby at_343) rfl rfl ?_
      show Steps p.tables e below (T186.setTop (mkF m 345 #[.val (.int p1), .val (.ref b1), .val (.ref b68), .val (.int (4 : Int32)), .val (.ref (A 4)), .val (.ref (A 4))] [(.ref (A 4)), (.ref (A 4))])) _
      refine Jvm.RoadKit.acmp (g := (mkF m 345 #[.val (.int p1), .val (.ref b1), .val (.ref b68), .val (.int (4 : Int32)), .val (.ref (A 4)), .val (.ref (A 4))] [(.ref (A 4)), (.ref (A 4))])) X186 hx rfl rfl rfl (pc0 := 345) (pc' := 348) (same := true) rfl (hb hby at_345) rfl (decide_eq_true rfl) (by decide) (by decide) ?_
      show Steps p.tables e below (T186.setTop (mkF m 348 #[.val (.int p1), .val (.ref b1), .val (.ref b68), .val (.int (4 : Int32)), .val (.ref (A 4)), .val (.ref (A 4))] [])) _
      refine XS.iconst X186.here hx rfl (hb hby at_348) ?_
      show Steps p.tables e below (T186.setTop (mkF m 349 #[.val (.int p1), .val (.ref b1), .val (.ref b68), .val (.int (4 : Int32)), .val (.ref (A 4)), .val (.ref (A 4))] [(.int (1 : Int32))])) _
      refine XS.goto X186.here hx rfl (pc0 := 349) (pc' := 353) rfl (hb hby at_349) (by decide) (by decide) ?_
      show Steps p.tables e below (T186.setTop (mkF m 353 #[.val (.int p1), .val (.ref b1), .val (.ref b68), .val (.int (4 : Int32)), .val (.ref (A 4)), .val (.ref (A 4))] [(.int (1 : Int32))])) _
      exact retN X186 hx (t := .boolean) Bd.returns (by simp) (hb hby at_353) hr
    · show LQ n0 _ T186.heap _
      exact ⟨rfl, N186, trivial⟩
  | 5, _, hk136 =>
    have fx187 : Arv Z h134 b1 k1 (.object "com/example/dongl/dongl/core/ErrorCode") (22 : Int32) [(.ref (A 0)), (.ref (A 1)), (.ref (A 2)), (.ref (A 3)), (.ref (A 4)), (.ref (A 5)), (.ref (A 6)), (.ref (A 7)), (.ref (A 8)), (.ref (A 9)), (.ref (A 10)), (.ref (A 11)), (.ref (A 12)), (.ref (A 13)), (.ref (A 14)), (.ref (A 15)), (.ref (A 16)), (.ref (A 17)), (.ref (A 18)), (.ref (A 19)), (.ref (A 20)), (.ref (A 21))] .null := (((((((((((((((((((((((V67.ext E68).other W71 (Nat.ne_of_lt lt_b1_b68)).other W74 (Nat.ne_of_lt lt_b1_b68)).other W77 (Nat.ne_of_lt lt_b1_b68)).other W80 (Nat.ne_of_lt lt_b1_b68)).other W83 (Nat.ne_of_lt lt_b1_b68)).other W86 (Nat.ne_of_lt lt_b1_b68)).other W89 (Nat.ne_of_lt lt_b1_b68)).other W92 (Nat.ne_of_lt lt_b1_b68)).other W95 (Nat.ne_of_lt lt_b1_b68)).other W98 (Nat.ne_of_lt lt_b1_b68)).other W101 (Nat.ne_of_lt lt_b1_b68)).other W104 (Nat.ne_of_lt lt_b1_b68)).other W107 (Nat.ne_of_lt lt_b1_b68)).other W110 (Nat.ne_of_lt lt_b1_b68)).other W113 (Nat.ne_of_lt lt_b1_b68)).other W116 (Nat.ne_of_lt lt_b1_b68)).other W119 (Nat.ne_of_lt lt_b1_b68)).other W122 (Nat.ne_of_lt lt_b1_b68)).other W125 (Nat.ne_of_lt lt_b1_b68)).other W128 (Nat.ne_of_lt lt_b1_b68)).other W131 (Nat.ne_of_lt lt_b1_b68)).other W134 (Nat.ne_of_lt lt_b1_b68))
    obtain ⟨cl188, Ar188, q188, Sz188, Nn188, Hh188, Gg188⟩ := (id fx187)
    have hin188 : ¬ ((5 : Int32) < 0 ∨ cl188.slots.size ≤ ((5 : Int32)).toNatClampNeg) := inb_of Sz188 ⟨by decide, by decide⟩
    have hat188 : cl188.slots[((5 : Int32)).toNatClampNeg]? = some (.ref (A 5)) := Has.at Hh188 hin188 rfl
    obtain ⟨_, _, ⟨T194, L194, k194, n194⟩, -, X194, ⟨Lc194, hQ194, l194, y194, z194⟩, st194⟩ := Jvm.LawKit.callS X134 hx (y := own_m0) hown (mvT hZ (hw _ (List.mem_of_getElem? (i := 49) rfl))) (mvT hZ (hw _ (List.mem_of_getElem? (i := 50) rfl))) (mvT hZ (hw _ (List.mem_of_getElem? (i := 51) rfl))) (mvT hZ (hw _ (List.mem_of_getElem? (i := 52) rfl))) (by decide) (backOf (W := 0) (rm13 l Z a0 hw [] h134 n0 p1 A K EN OL134) hZ (hw _ (List.mem_of_getElem? (i := 52) rfl)) (hw _ (List.mem_of_getElem? (i := 51) rfl)) (by decide) (by decide)) (g := (mkF m 323 #[.val (.int p1), .val (.ref b1), .val (.ref b68), .val (.int (5 : Int32)), .val (.ref (A 5)), .unset] [(.ref (A 5))])) rfl (by rw [hml]; rfl) (argsL := [(.ref (A 5))]) (rest := []) (lenOf own_pd1 rfl) rfl (by show 2 * 0 + _ ≤ _; exact Nat.le_of_eq rfl) (hb hby at_323) (fun _ _ => ⟨rfl, e134, (by decide : 2 + 0 ≤ _), (by decide : 44 + 0 ≤ _)⟩)
    dsimp only [Pt.U, Pt.locs, Pt.cells, Pt.slots] at X194 l194 y194 z194 st194 hQ194
    replace X194 := own_sub X194 l194 y194 z194
    obtain ⟨rfl, N194q, e194⟩ := hQ194
    have N194 := Fr.app NF134 N194q
    obtain ⟨cl195, Ar195, q195, Sz195, Nn195, Hh195, Gg195⟩ := (id V134)
    have hin195 : ¬ ((5 : Int32) < 0 ∨ cl195.slots.size ≤ ((5 : Int32)).toNatClampNeg) := inb_of Sz195 ⟨by decide, by decide⟩
    have hat195 : cl195.slots[((5 : Int32)).toNatClampNeg]? = some (.ref (A 19)) := Has.at Hh195 hin195 rfl
    obtain ⟨_, _, ⟨T200, L200, k200, n200⟩, -, X200, ⟨Lc200, hQ200, l200, y200, z200⟩, st200⟩ := Jvm.LawKit.callS X194 hx (y := own_m0) hown (mvT hZ (hw _ (List.mem_of_getElem? (i := 49) rfl))) (mvT hZ (hw _ (List.mem_of_getElem? (i := 50) rfl))) (mvT hZ (hw _ (List.mem_of_getElem? (i := 51) rfl))) (mvT hZ (hw _ (List.mem_of_getElem? (i := 52) rfl))) (by decide) (backOf (W := 0) (rm15 l Z a0 hw [] h134 n0 p1 A K EN OL134) hZ (hw _ (List.mem_of_getElem? (i := 52) rfl)) (hw _ (List.mem_of_getElem? (i := 51) rfl)) (by decide) (by decide)) (g := (mkF m 340 #[.val (.int p1), .val (.ref b1), .val (.ref b68), .val (.int (5 : Int32)), .val (.ref (A 5)), .val (.ref (A 19))] [(.ref (A 19))])) rfl (by rw [hml]; rfl) (argsL := [(.ref (A 19))]) (rest := []) (lenOf own_pd1 rfl) rfl (by show 2 * 0 + _ ≤ _; exact Nat.le_of_eq rfl) (hb hby at_340) (fun _ _ => ⟨rfl, e194, (by decide : 2 + 0 ≤ _), (by decide : 44 + 0 ≤ _)⟩)
    dsimp only [Pt.U, Pt.locs, Pt.cells, Pt.slots] at X200 l200 y200 z200 st200 hQ200
    replace X200 := own_sub X200 l200 y200 z200
    obtain ⟨rfl, N200q, e200⟩ := hQ200
    have N200 := Fr.app N194 N200q
    obtain ⟨fs, hr, hrun, hended, hW, hsame⟩ := X200.leave (v := some (.int (1 : Int32))) (fun h => by rw [Bd.returns] at h; cases h)
    refine ⟨_, _, pre135 _ ?_, hrun, hended, _, _, rfl, ?_, ⟨_, rfl⟩, hW, hsame.mono (by decide) (by decide)⟩
    · show Steps p.tables e below (T134.setTop (mkF m 315 #[.val (.int p1), .val (.ref b1), .val (.ref b68), .unset, .unset, .unset] [(.int ((p1 &&& (2147483647 : Int32)) % (22 : Int32)))])) _
      rw [hk136]
      show Steps p.tables e below (T134.setTop (mkF m 315 #[.val (.int p1), .val (.ref b1), .val (.ref b68), .unset, .unset, .unset] [(.int (5 : Int32))])) _
      refine XS.istoreN X134.here hx rfl (hb hby at_315) rfl (l' := #[.val (.int p1), .val (.ref b1), .val (.ref b68), .val (.int (5 : Int32)), .unset, .unset]) rfl ?_
      show Steps p.tables e below (T134.setTop (mkF m 316 #[.val (.int p1), .val (.ref b1), .val (.ref b68), .val (.int (5 : Int32)), .unset, .unset] [])) _
      refine XS.aloadN X134.here hx rfl (hb hby at_316) rfl rfl ?_
      show Steps p.tables e below (T134.setTop (mkF m 317 #[.val (.int p1), .val (.ref b1), .val (.ref b68), .val (.int (5 : Int32)), .unset, .unset] [(.ref b1)])) _
      refine XS.iloadN X134.here hx rfl (hb hby at_317) rfl ?_
      show Steps p.tables e below (T134.setTop (mkF m 318 #[.val (.int p1), .val (.ref b1), .val (.ref b68), .val (.int (5 : Int32)), .unset, .unset] [(.int (5 : Int32)), (.ref b1)])) _
      refine X134.aaload hx (j := (5 : Int32)) (v := (.ref (A 5))) (by rw [e134]; exact Ar188.1) (State.isArrayOf_alike hZ.alike Ar188.2.1) rfl Ar188.2.2 hin188 hat188 (g := (mkF m 318 #[.val (.int p1), .val (.ref b1), .val (.ref b68), .val (.int (5 : Int32)), .unset, .unset] [(.int (5 : Int32)), (.ref b1)])) rfl rfl (hb hby at_318) _ ?_
      show Steps p.tables e below (T134.setTop (mkF m 319 #[.val (.int p1), .val (.ref b1), .val (.ref b68), .val (.int (5 : Int32)), .unset, .unset] [(.ref (A 5))])) _
      refine XS.astore X134.here hx rfl (hb hby at_319) rfl rfl (l' := #[.val (.int p1), .val (.ref b1), .val (.ref b68), .val (.int (5 : Int32)), .val (.ref (A 5)), .unset]) rfl ?_
      show Steps p.tables e below (T134.setTop (mkF m 321 #[.val (.int p1), .val (.ref b1), .val (.ref b68), .val (.int (5 : Int32)), .val (.ref (A 5)), .unset] [])) _
      refine XS.aload X134.here hx rfl (hb hby at_321) rfl rfl ?_
      show Steps p.tables e below (T134.setTop (mkF m 323 #[.val (.int p1), .val (.ref b1), .val (.ref b68), .val (.int (5 : Int32)), .val (.ref (A 5)), .unset] [(.ref (A 5))])) _
      refine st194 _ ?_
      show Steps p.tables e below (T194.setTop (mkF m 326 #[.val (.int p1), .val (.ref b1), .val (.ref b68), .val (.int (5 : Int32)), .val (.ref (A 5)), .unset] [(.ref (A 19))])) _
      refine XS.astore X194.here hx rfl (hb hby at_326) rfl rfl (l' := #[.val (.int p1), .val (.ref b1), .val (.ref b68), .val (.int (5 : Int32)), .val (.ref (A 5)), .val (.ref (A 19))]) rfl ?_
      show Steps p.tables e below (T194.setTop (mkF m 328 #[.val (.int p1), .val (.ref b1), .val (.ref b68), .val (.int (5 : Int32)), .val (.ref (A 5)), .val (.ref (A 19))] [])) _
      refine XS.aload X194.here hx rfl (hb hby at_328) rfl rfl ?_
      show Steps p.tables e below (T194.setTop (mkF m 330 #[.val (.int p1), .val (.ref b1), .val (.ref b68), .val (.int (5 : Int32)), .val (.ref (A 5)), .val (.ref (A 19))] [(.ref (A 19))])) _
      refine XS.aloadN X194.here hx rfl (hb hby at_330) rfl rfl ?_
      show Steps p.tables e below (T194.setTop (mkF m 331 #[.val (.int p1), .val (.ref b1), .val (.ref b68), .val (.int (5 : Int32)), .val (.ref (A 5)), .val (.ref (A 19))] [(.ref b68), (.ref (A 19))])) _
      refine XS.iloadN X194.here hx rfl (hb hby at_331) rfl ?_
      show Steps p.tables e below (T194.setTop (mkF m 332 #[.val (.int p1), .val (.ref b1), .val (.ref b68), .val (.int (5 : Int32)), .val (.ref (A 5)), .val (.ref (A 19))] [(.int (5 : Int32)), (.ref b68), (.ref (A 19))])) _
      refine X194.aaload hx (j := (5 : Int32)) (v := (.ref (A 19))) (by rw [e194]; exact Ar195.1) (State.isArrayOf_alike hZ.alike Ar195.2.1) rfl Ar195.2.2 hin195 hat195 (g := (mkF m 332 #[.val (.int p1), .val (.ref b1), .val (.ref b68), .val (.int (5 : Int32)), .val (.ref (A 5)), .val (.ref (A 19))] [(.int (5 : Int32)), (.ref b68), (.ref (A 19))])) rfl rfl (hb hby at_332) _ ?_
      show Steps p.tables e below (T194.setTop (mkF m 333 #[.val (.int p1), .val (.ref b1), .val (.ref b68), .val (.int (5 : Int32)), .val (.ref (A 5)), .val (.ref (A 19))] [(.ref (A 19)), (.ref (A 19))])) _
      refine Jvm.RoadKit.acmp (g := (mkF m 333 #[.val (.int p1), .val (.ref b1), .val (.ref b68), .val (.int (5 : Int32)), .val (.ref (A 5)), .val (.ref (A 19))] [(.ref (A 19)), (.ref (A 19))])) X194 hx rfl rfl rfl (pc0 := 333) (pc' := 338) (same := true) rfl (hb hby at_333) rfl (decide_eq_true rfl) (by decide) (by decide) ?_
      show Steps p.tables e below (T194.setTop (mkF m 338 #[.val (.int p1), .val (.ref b1), .val (.ref b68), .val (.int (5 : Int32)), .val (.ref (A 5)), .val (.ref (A 19))] [])) _
      refine XS.aload X194.here hx rfl (hb hby at_338) rfl rfl ?_
      show Steps p.tables e below (T194.setTop (mkF m 340 #[.val (.int p1), .val (.ref b1), .val (.ref b68), .val (.int (5 : Int32)), .val (.ref (A 5)), .val (.ref (A 19))] [(.ref (A 19))])) _
      refine st200 _ ?_
      show Steps p.tables e below (T200.setTop (mkF m 343 #[.val (.int p1), .val (.ref b1), .val (.ref b68), .val (.int (5 : Int32)), .val (.ref (A 5)), .val (.ref (A 19))] [(.ref (A 19))])) _
      refine XS.aload X200.here hx rfl (hb hby at_343) rfl rfl ?_
      show Steps p.tables e below (T200.setTop (mkF m 345 #[.val (.int p1), .val (.ref b1), .val (.ref b68), .val (.int (5 : Int32)), .val (.ref (A 5)), .val (.ref (A 19))] [(.ref (A 19)), (.ref (A 19))])) _
      refine Jvm.RoadKit.acmp (g := (mkF m 345 #[.val (.int p1), .val (.ref b1), .val (.ref b68), .val (.int (5 : Int32)), .val (.ref (A 5)), .val (.ref (A 19))] [(.ref (A 19)), (.ref (A 19))])) X200 hx rfl rfl rfl (pc0 := 345) (pc' := 348) (same := true) rfl (hb hby at_345) rfl (decide_eq_true rfl) (by decide) (by decide) ?_
      show Steps p.tables e below (T200.setTop (mkF m 348 #[.val (.int p1), .val (.ref b1), .val (.ref b68), .val (.int (5 : Int32)), .val (.ref (A 5)), .val (.ref (A 19))] [])) _
      refine XS.iconst X200.here hx rfl (hb hby at_348) ?_
      show Steps p.tables e below (T200.setTop (mkF m 349 #[.val (.int p1), .val (.ref b1), .val (.ref b68), .val (.int (5 : Int32)), .val (.ref (A 5)), .val (.ref (A 19))] [(.int (1 : Int32))])) _
      refine XS.goto X200.here hx rfl (pc0 := 349) (pc' := 353) rfl (hb hby at_349) (by decide) (by decide) ?_
      show Steps p.tables e below (T200.setTop (mkF m 353 #[.val (.int p1), .val (.ref b1), .val (.ref b68), .val (.int (5 : Int32)), .val (.ref (A 5)), .val (.ref (A 19))] [(.int (1 : Int32))])) _
      exact retN X200 hx (t := .boolean) Bd.returns (by simp) (hb hby at_353) hr
    · show LQ n0 _ T200.heap _
      exact ⟨rfl, N200, trivial⟩
  | 6, _, hk136 =>
    have fx201 : Arv Z h134 b1 k1 (.object "com/example/dongl/dongl/core/ErrorCode") (22 : Int32) [(.ref (A 0)), (.ref (A 1)), (.ref (A 2)), (.ref (A 3)), (.ref (A 4)), (.ref (A 5)), (.ref (A 6)), (.ref (A 7)), (.ref (A 8)), (.ref (A 9)), (.ref (A 10)), (.ref (A 11)), (.ref (A 12)), (.ref (A 13)), (.ref (A 14)), (.ref (A 15)), (.ref (A 16)), (.ref (A 17)), (.ref (A 18)), (.ref (A 19)), (.ref (A 20)), (.ref (A 21))] .null := (((((((((((((((((((((((V67.ext E68).other W71 (Nat.ne_of_lt lt_b1_b68)).other W74 (Nat.ne_of_lt lt_b1_b68)).other W77 (Nat.ne_of_lt lt_b1_b68)).other W80 (Nat.ne_of_lt lt_b1_b68)).other W83 (Nat.ne_of_lt lt_b1_b68)).other W86 (Nat.ne_of_lt lt_b1_b68)).other W89 (Nat.ne_of_lt lt_b1_b68)).other W92 (Nat.ne_of_lt lt_b1_b68)).other W95 (Nat.ne_of_lt lt_b1_b68)).other W98 (Nat.ne_of_lt lt_b1_b68)).other W101 (Nat.ne_of_lt lt_b1_b68)).other W104 (Nat.ne_of_lt lt_b1_b68)).other W107 (Nat.ne_of_lt lt_b1_b68)).other W110 (Nat.ne_of_lt lt_b1_b68)).other W113 (Nat.ne_of_lt lt_b1_b68)).other W116 (Nat.ne_of_lt lt_b1_b68)).other W119 (Nat.ne_of_lt lt_b1_b68)).other W122 (Nat.ne_of_lt lt_b1_b68)).other W125 (Nat.ne_of_lt lt_b1_b68)).other W128 (Nat.ne_of_lt lt_b1_b68)).other W131 (Nat.ne_of_lt lt_b1_b68)).other W134 (Nat.ne_of_lt lt_b1_b68))
    obtain ⟨cl202, Ar202, q202, Sz202, Nn202, Hh202, Gg202⟩ := (id fx201)
    have hin202 : ¬ ((6 : Int32) < 0 ∨ cl202.slots.size ≤ ((6 : Int32)).toNatClampNeg) := inb_of Sz202 ⟨by decide, by decide⟩
    have hat202 : cl202.slots[((6 : Int32)).toNatClampNeg]? = some (.ref (A 6)) := Has.at Hh202 hin202 rfl
    obtain ⟨_, _, ⟨T207, L207, k207, n207⟩, -, X207, ⟨Lc207, hQ207, l207, y207, z207⟩, st207⟩ := Jvm.LawKit.callS X134 hx (y := own_m0) hown (mvT hZ (hw _ (List.mem_of_getElem? (i := 49) rfl))) (mvT hZ (hw _ (List.mem_of_getElem? (i := 50) rfl))) (mvT hZ (hw _ (List.mem_of_getElem? (i := 51) rfl))) (mvT hZ (hw _ (List.mem_of_getElem? (i := 52) rfl))) (by decide) (backOf (W := 0) (rm17 l Z a0 hw [] h134 n0 p1 A K EN OL134) hZ (hw _ (List.mem_of_getElem? (i := 52) rfl)) (hw _ (List.mem_of_getElem? (i := 51) rfl)) (by decide) (by decide)) (g := (mkF m 323 #[.val (.int p1), .val (.ref b1), .val (.ref b68), .val (.int (6 : Int32)), .val (.ref (A 6)), .unset] [(.ref (A 6))])) rfl (by rw [hml]; rfl) (argsL := [(.ref (A 6))]) (rest := []) (lenOf own_pd1 rfl) rfl (by show 2 * 0 + _ ≤ _; exact Nat.le_of_eq rfl) (hb hby at_323) (fun _ _ => ⟨rfl, e134, (by decide : 2 + 0 ≤ _), (by decide : 44 + 0 ≤ _)⟩)
    dsimp only [Pt.U, Pt.locs, Pt.cells, Pt.slots] at X207 l207 y207 z207 st207 hQ207
    replace X207 := own_sub X207 l207 y207 z207
    obtain ⟨rfl, N207q, e207⟩ := hQ207
    have N207 := Fr.app NF134 N207q
    obtain ⟨cl208, Ar208, q208, Sz208, Nn208, Hh208, Gg208⟩ := (id V134)
    have hin208 : ¬ ((6 : Int32) < 0 ∨ cl208.slots.size ≤ ((6 : Int32)).toNatClampNeg) := inb_of Sz208 ⟨by decide, by decide⟩
    have hat208 : cl208.slots[((6 : Int32)).toNatClampNeg]? = some (.ref (A 6)) := Has.at Hh208 hin208 rfl
    obtain ⟨_, _, ⟨T209, L209, k209, n209⟩, -, X209, ⟨Lc209, hQ209, l209, y209, z209⟩, st209⟩ := Jvm.LawKit.callS X207 hx (y := own_m0) hown (mvT hZ (hw _ (List.mem_of_getElem? (i := 49) rfl))) (mvT hZ (hw _ (List.mem_of_getElem? (i := 50) rfl))) (mvT hZ (hw _ (List.mem_of_getElem? (i := 51) rfl))) (mvT hZ (hw _ (List.mem_of_getElem? (i := 52) rfl))) (by decide) (backOf (W := 0) (rm17 l Z a0 hw [] h134 n0 p1 A K EN OL134) hZ (hw _ (List.mem_of_getElem? (i := 52) rfl)) (hw _ (List.mem_of_getElem? (i := 51) rfl)) (by decide) (by decide)) (g := (mkF m 340 #[.val (.int p1), .val (.ref b1), .val (.ref b68), .val (.int (6 : Int32)), .val (.ref (A 6)), .val (.ref (A 6))] [(.ref (A 6))])) rfl (by rw [hml]; rfl) (argsL := [(.ref (A 6))]) (rest := []) (lenOf own_pd1 rfl) rfl (by show 2 * 0 + _ ≤ _; exact Nat.le_of_eq rfl) (hb hby at_340) (fun _ _ => ⟨rfl, e207, (by decide : 2 + 0 ≤ _), (by decide : 44 + 0 ≤ _)⟩)
    dsimp only [Pt.U, Pt.locs, Pt.cells, Pt.slots] at X209 l209 y209 z209 st209 hQ209
    replace X209 := own_sub X209 l209 y209 z209
    obtain ⟨rfl, N209q, e209⟩ := hQ209
    have N209 := Fr.app N207 N209q
    obtain ⟨fs, hr, hrun, hended, hW, hsame⟩ := X209.leave (v := some (.int (1 : Int32))) (fun h => by rw [Bd.returns] at h; cases h)
    refine ⟨_, _, pre135 _ ?_, hrun, hended, _, _, rfl, ?_, ⟨_, rfl⟩, hW, hsame.mono (by decide) (by decide)⟩
    · show Steps p.tables e below (T134.setTop (mkF m 315 #[.val (.int p1), .val (.ref b1), .val (.ref b68), .unset, .unset, .unset] [(.int ((p1 &&& (2147483647 : Int32)) % (22 : Int32)))])) _
      rw [hk136]
      show Steps p.tables e below (T134.setTop (mkF m 315 #[.val (.int p1), .val (.ref b1), .val (.ref b68), .unset, .unset, .unset] [(.int (6 : Int32))])) _
      refine XS.istoreN X134.here hx rfl (hb hby at_315) rfl (l' := #[.val (.int p1), .val (.ref b1), .val (.ref b68), .val (.int (6 : Int32)), .unset, .unset]) rfl ?_
      show Steps p.tables e below (T134.setTop (mkF m 316 #[.val (.int p1), .val (.ref b1), .val (.ref b68), .val (.int (6 : Int32)), .unset, .unset] [])) _
      refine XS.aloadN X134.here hx rfl (hb hby at_316) rfl rfl ?_
      show Steps p.tables e below (T134.setTop (mkF m 317 #[.val (.int p1), .val (.ref b1), .val (.ref b68), .val (.int (6 : Int32)), .unset, .unset] [(.ref b1)])) _
      refine XS.iloadN X134.here hx rfl (hb hby at_317) rfl ?_
      show Steps p.tables e below (T134.setTop (mkF m 318 #[.val (.int p1), .val (.ref b1), .val (.ref b68), .val (.int (6 : Int32)), .unset, .unset] [(.int (6 : Int32)), (.ref b1)])) _
      refine X134.aaload hx (j := (6 : Int32)) (v := (.ref (A 6))) (by rw [e134]; exact Ar202.1) (State.isArrayOf_alike hZ.alike Ar202.2.1) rfl Ar202.2.2 hin202 hat202 (g := (mkF m 318 #[.val (.int p1), .val (.ref b1), .val (.ref b68), .val (.int (6 : Int32)), .unset, .unset] [(.int (6 : Int32)), (.ref b1)])) rfl rfl (hb hby at_318) _ ?_
      show Steps p.tables e below (T134.setTop (mkF m 319 #[.val (.int p1), .val (.ref b1), .val (.ref b68), .val (.int (6 : Int32)), .unset, .unset] [(.ref (A 6))])) _
      refine XS.astore X134.here hx rfl (hb hby at_319) rfl rfl (l' := #[.val (.int p1), .val (.ref b1), .val (.ref b68), .val (.int (6 : Int32)), .val (.ref (A 6)), .unset]) rfl ?_
      show Steps p.tables e below (T134.setTop (mkF m 321 #[.val (.int p1), .val (.ref b1), .val (.ref b68), .val (.int (6 : Int32)), .val (.ref (A 6)), .unset] [])) _
      refine XS.aload X134.here hx rfl (hb hby at_321) rfl rfl ?_
      show Steps p.tables e below (T134.setTop (mkF m 323 #[.val (.int p1), .val (.ref b1), .val (.ref b68), .val (.int (6 : Int32)), .val (.ref (A 6)), .unset] [(.ref (A 6))])) _
      refine st207 _ ?_
      show Steps p.tables e below (T207.setTop (mkF m 326 #[.val (.int p1), .val (.ref b1), .val (.ref b68), .val (.int (6 : Int32)), .val (.ref (A 6)), .unset] [(.ref (A 6))])) _
      refine XS.astore X207.here hx rfl (hb hby at_326) rfl rfl (l' := #[.val (.int p1), .val (.ref b1), .val (.ref b68), .val (.int (6 : Int32)), .val (.ref (A 6)), .val (.ref (A 6))]) rfl ?_
      show Steps p.tables e below (T207.setTop (mkF m 328 #[.val (.int p1), .val (.ref b1), .val (.ref b68), .val (.int (6 : Int32)), .val (.ref (A 6)), .val (.ref (A 6))] [])) _
      refine XS.aload X207.here hx rfl (hb hby at_328) rfl rfl ?_
      show Steps p.tables e below (T207.setTop (mkF m 330 #[.val (.int p1), .val (.ref b1), .val (.ref b68), .val (.int (6 : Int32)), .val (.ref (A 6)), .val (.ref (A 6))] [(.ref (A 6))])) _
      refine XS.aloadN X207.here hx rfl (hb hby at_330) rfl rfl ?_
      show Steps p.tables e below (T207.setTop (mkF m 331 #[.val (.int p1), .val (.ref b1), .val (.ref b68), .val (.int (6 : Int32)), .val (.ref (A 6)), .val (.ref (A 6))] [(.ref b68), (.ref (A 6))])) _
      refine XS.iloadN X207.here hx rfl (hb hby at_331) rfl ?_
      show Steps p.tables e below (T207.setTop (mkF m 332 #[.val (.int p1), .val (.ref b1), .val (.ref b68), .val (.int (6 : Int32)), .val (.ref (A 6)), .val (.ref (A 6))] [(.int (6 : Int32)), (.ref b68), (.ref (A 6))])) _
      refine X207.aaload hx (j := (6 : Int32)) (v := (.ref (A 6))) (by rw [e207]; exact Ar208.1) (State.isArrayOf_alike hZ.alike Ar208.2.1) rfl Ar208.2.2 hin208 hat208 (g := (mkF m 332 #[.val (.int p1), .val (.ref b1), .val (.ref b68), .val (.int (6 : Int32)), .val (.ref (A 6)), .val (.ref (A 6))] [(.int (6 : Int32)), (.ref b68), (.ref (A 6))])) rfl rfl (hb hby at_332) _ ?_
      show Steps p.tables e below (T207.setTop (mkF m 333 #[.val (.int p1), .val (.ref b1), .val (.ref b68), .val (.int (6 : Int32)), .val (.ref (A 6)), .val (.ref (A 6))] [(.ref (A 6)), (.ref (A 6))])) _
      refine Jvm.RoadKit.acmp (g := (mkF m 333 #[.val (.int p1), .val (.ref b1), .val (.ref b68), .val (.int (6 : Int32)), .val (.ref (A 6)), .val (.ref (A 6))] [(.ref (A 6)), (.ref (A 6))])) X207 hx rfl rfl rfl (pc0 := 333) (pc' := 338) (same := true) rfl (hb hby at_333) rfl (decide_eq_true rfl) (by decide) (by decide) ?_
      show Steps p.tables e below (T207.setTop (mkF m 338 #[.val (.int p1), .val (.ref b1), .val (.ref b68), .val (.int (6 : Int32)), .val (.ref (A 6)), .val (.ref (A 6))] [])) _
      refine XS.aload X207.here hx rfl (hb hby at_338) rfl rfl ?_
      show Steps p.tables e below (T207.setTop (mkF m 340 #[.val (.int p1), .val (.ref b1), .val (.ref b68), .val (.int (6 : Int32)), .val (.ref (A 6)), .val (.ref (A 6))] [(.ref (A 6))])) _
      refine st209 _ ?_
      show Steps p.tables e below (T209.setTop (mkF m 343 #[.val (.int p1), .val (.ref b1), .val (.ref b68), .val (.int (6 : Int32)), .val (.ref (A 6)), .val (.ref (A 6))] [(.ref (A 6))])) _
      refine XS.aload X209.here hx rfl (hb hby at_343) rfl rfl ?_
      show Steps p.tables e below (T209.setTop (mkF m 345 #[.val (.int p1), .val (.ref b1), .val (.ref b68), .val (.int (6 : Int32)), .val (.ref (A 6)), .val (.ref (A 6))] [(.ref (A 6)), (.ref (A 6))])) _
      refine Jvm.RoadKit.acmp (g := (mkF m 345 #[.val (.int p1), .val (.ref b1), .val (.ref b68), .val (.int (6 : Int32)), .val (.ref (A 6)), .val (.ref (A 6))] [(.ref (A 6)), (.ref (A 6))])) X209 hx rfl rfl rfl (pc0 := 345) (pc' := 348) (same := true) rfl (hb hby at_345) rfl (decide_eq_true rfl) (by decide) (by decide) ?_
      show Steps p.tables e below (T209.setTop (mkF m 348 #[.val (.int p1), .val (.ref b1), .val (.ref b68), .val (.int (6 : Int32)), .val (.ref (A 6)), .val (.ref (A 6))] [])) _
      refine XS.iconst X209.here hx rfl (hb hby at_348) ?_
      show Steps p.tables e below (T209.setTop (mkF m 349 #[.val (.int p1), .val (.ref b1), .val (.ref b68), .val (.int (6 : Int32)), .val (.ref (A 6)), .val (.ref (A 6))] [(.int (1 : Int32))])) _
      refine XS.goto X209.here hx rfl (pc0 := 349) (pc' := 353) rfl (hb hby at_349) (by decide) (by decide) ?_
      show Steps p.tables e below (T209.setTop (mkF m 353 #[.val (.int p1), .val (.ref b1), .val (.ref b68), .val (.int (6 : Int32)), .val (.ref (A 6)), .val (.ref (A 6))] [(.int (1 : Int32))])) _
      exact retN X209 hx (t := .boolean) Bd.returns (by simp) (hb hby at_353) hr
    · show LQ n0 _ T209.heap _
      exact ⟨rfl, N209, trivial⟩
  | 7, _, hk136 =>
    have fx210 : Arv Z h134 b1 k1 (.object "com/example/dongl/dongl/core/ErrorCode") (22 : Int32) [(.ref (A 0)), (.ref (A 1)), (.ref (A 2)), (.ref (A 3)), (.ref (A 4)), (.ref (A 5)), (.ref (A 6)), (.ref (A 7)), (.ref (A 8)), (.ref (A 9)), (.ref (A 10)), (.ref (A 11)), (.ref (A 12)), (.ref (A 13)), (.ref (A 14)), (.ref (A 15)), (.ref (A 16)), (.ref (A 17)), (.ref (A 18)), (.ref (A 19)), (.ref (A 20)), (.ref (A 21))] .null := (((((((((((((((((((((((V67.ext E68).other W71 (Nat.ne_of_lt lt_b1_b68)).other W74 (Nat.ne_of_lt lt_b1_b68)).other W77 (Nat.ne_of_lt lt_b1_b68)).other W80 (Nat.ne_of_lt lt_b1_b68)).other W83 (Nat.ne_of_lt lt_b1_b68)).other W86 (Nat.ne_of_lt lt_b1_b68)).other W89 (Nat.ne_of_lt lt_b1_b68)).other W92 (Nat.ne_of_lt lt_b1_b68)).other W95 (Nat.ne_of_lt lt_b1_b68)).other W98 (Nat.ne_of_lt lt_b1_b68)).other W101 (Nat.ne_of_lt lt_b1_b68)).other W104 (Nat.ne_of_lt lt_b1_b68)).other W107 (Nat.ne_of_lt lt_b1_b68)).other W110 (Nat.ne_of_lt lt_b1_b68)).other W113 (Nat.ne_of_lt lt_b1_b68)).other W116 (Nat.ne_of_lt lt_b1_b68)).other W119 (Nat.ne_of_lt lt_b1_b68)).other W122 (Nat.ne_of_lt lt_b1_b68)).other W125 (Nat.ne_of_lt lt_b1_b68)).other W128 (Nat.ne_of_lt lt_b1_b68)).other W131 (Nat.ne_of_lt lt_b1_b68)).other W134 (Nat.ne_of_lt lt_b1_b68))
    obtain ⟨cl211, Ar211, q211, Sz211, Nn211, Hh211, Gg211⟩ := (id fx210)
    have hin211 : ¬ ((7 : Int32) < 0 ∨ cl211.slots.size ≤ ((7 : Int32)).toNatClampNeg) := inb_of Sz211 ⟨by decide, by decide⟩
    have hat211 : cl211.slots[((7 : Int32)).toNatClampNeg]? = some (.ref (A 7)) := Has.at Hh211 hin211 rfl
    obtain ⟨_, _, ⟨T216, L216, k216, n216⟩, -, X216, ⟨Lc216, hQ216, l216, y216, z216⟩, st216⟩ := Jvm.LawKit.callS X134 hx (y := own_m0) hown (mvT hZ (hw _ (List.mem_of_getElem? (i := 49) rfl))) (mvT hZ (hw _ (List.mem_of_getElem? (i := 50) rfl))) (mvT hZ (hw _ (List.mem_of_getElem? (i := 51) rfl))) (mvT hZ (hw _ (List.mem_of_getElem? (i := 52) rfl))) (by decide) (backOf (W := 0) (rm19 l Z a0 hw [] h134 n0 p1 A K EN OL134) hZ (hw _ (List.mem_of_getElem? (i := 52) rfl)) (hw _ (List.mem_of_getElem? (i := 51) rfl)) (by decide) (by decide)) (g := (mkF m 323 #[.val (.int p1), .val (.ref b1), .val (.ref b68), .val (.int (7 : Int32)), .val (.ref (A 7)), .unset] [(.ref (A 7))])) rfl (by rw [hml]; rfl) (argsL := [(.ref (A 7))]) (rest := []) (lenOf own_pd1 rfl) rfl (by show 2 * 0 + _ ≤ _; exact Nat.le_of_eq rfl) (hb hby at_323) (fun _ _ => ⟨rfl, e134, (by decide : 2 + 0 ≤ _), (by decide : 44 + 0 ≤ _)⟩)
    dsimp only [Pt.U, Pt.locs, Pt.cells, Pt.slots] at X216 l216 y216 z216 st216 hQ216
    replace X216 := own_sub X216 l216 y216 z216
    obtain ⟨rfl, N216q, e216⟩ := hQ216
    have N216 := Fr.app NF134 N216q
    obtain ⟨cl217, Ar217, q217, Sz217, Nn217, Hh217, Gg217⟩ := (id V134)
    have hin217 : ¬ ((7 : Int32) < 0 ∨ cl217.slots.size ≤ ((7 : Int32)).toNatClampNeg) := inb_of Sz217 ⟨by decide, by decide⟩
    have hat217 : cl217.slots[((7 : Int32)).toNatClampNeg]? = some (.ref (A 7)) := Has.at Hh217 hin217 rfl
    obtain ⟨_, _, ⟨T218, L218, k218, n218⟩, -, X218, ⟨Lc218, hQ218, l218, y218, z218⟩, st218⟩ := Jvm.LawKit.callS X216 hx (y := own_m0) hown (mvT hZ (hw _ (List.mem_of_getElem? (i := 49) rfl))) (mvT hZ (hw _ (List.mem_of_getElem? (i := 50) rfl))) (mvT hZ (hw _ (List.mem_of_getElem? (i := 51) rfl))) (mvT hZ (hw _ (List.mem_of_getElem? (i := 52) rfl))) (by decide) (backOf (W := 0) (rm19 l Z a0 hw [] h134 n0 p1 A K EN OL134) hZ (hw _ (List.mem_of_getElem? (i := 52) rfl)) (hw _ (List.mem_of_getElem? (i := 51) rfl)) (by decide) (by decide)) (g := (mkF m 340 #[.val (.int p1), .val (.ref b1), .val (.ref b68), .val (.int (7 : Int32)), .val (.ref (A 7)), .val (.ref (A 7))] [(.ref (A 7))])) rfl (by rw [hml]; rfl) (argsL := [(.ref (A 7))]) (rest := []) (lenOf own_pd1 rfl) rfl (by show 2 * 0 + _ ≤ _; exact Nat.le_of_eq rfl) (hb hby at_340) (fun _ _ => ⟨rfl, e216, (by decide : 2 + 0 ≤ _), (by decide : 44 + 0 ≤ _)⟩)
    dsimp only [Pt.U, Pt.locs, Pt.cells, Pt.slots] at X218 l218 y218 z218 st218 hQ218
    replace X218 := own_sub X218 l218 y218 z218
    obtain ⟨rfl, N218q, e218⟩ := hQ218
    have N218 := Fr.app N216 N218q
    obtain ⟨fs, hr, hrun, hended, hW, hsame⟩ := X218.leave (v := some (.int (1 : Int32))) (fun h => by rw [Bd.returns] at h; cases h)
    refine ⟨_, _, pre135 _ ?_, hrun, hended, _, _, rfl, ?_, ⟨_, rfl⟩, hW, hsame.mono (by decide) (by decide)⟩
    · show Steps p.tables e below (T134.setTop (mkF m 315 #[.val (.int p1), .val (.ref b1), .val (.ref b68), .unset, .unset, .unset] [(.int ((p1 &&& (2147483647 : Int32)) % (22 : Int32)))])) _
      rw [hk136]
      show Steps p.tables e below (T134.setTop (mkF m 315 #[.val (.int p1), .val (.ref b1), .val (.ref b68), .unset, .unset, .unset] [(.int (7 : Int32))])) _
      refine XS.istoreN X134.here hx rfl (hb hby at_315) rfl (l' := #[.val (.int p1), .val (.ref b1), .val (.ref b68), .val (.int (7 : Int32)), .unset, .unset]) rfl ?_
      show Steps p.tables e below (T134.setTop (mkF m 316 #[.val (.int p1), .val (.ref b1), .val (.ref b68), .val (.int (7 : Int32)), .unset, .unset] [])) _
      refine XS.aloadN X134.here hx rfl (hb hby at_316) rfl rfl ?_
      show Steps p.tables e below (T134.setTop (mkF m 317 #[.val (.int p1), .val (.ref b1), .val (.ref b68), .val (.int (7 : Int32)), .unset, .unset] [(.ref b1)])) _
      refine XS.iloadN X134.here hx rfl (hb hby at_317) rfl ?_
      show Steps p.tables e below (T134.setTop (mkF m 318 #[.val (.int p1), .val (.ref b1), .val (.ref b68), .val (.int (7 : Int32)), .unset, .unset] [(.int (7 : Int32)), (.ref b1)])) _
      refine X134.aaload hx (j := (7 : Int32)) (v := (.ref (A 7))) (by rw [e134]; exact Ar211.1) (State.isArrayOf_alike hZ.alike Ar211.2.1) rfl Ar211.2.2 hin211 hat211 (g := (mkF m 318 #[.val (.int p1), .val (.ref b1), .val (.ref b68), .val (.int (7 : Int32)), .unset, .unset] [(.int (7 : Int32)), (.ref b1)])) rfl rfl (hb hby at_318) _ ?_
      show Steps p.tables e below (T134.setTop (mkF m 319 #[.val (.int p1), .val (.ref b1), .val (.ref b68), .val (.int (7 : Int32)), .unset, .unset] [(.ref (A 7))])) _
      refine XS.astore X134.here hx rfl (hb hby at_319) rfl rfl (l' := #[.val (.int p1), .val (.ref b1), .val (.ref b68), .val (.int (7 : Int32)), .val (.ref (A 7)), .unset]) rfl ?_
      show Steps p.tables e below (T134.setTop (mkF m 321 #[.val (.int p1), .val (.ref b1), .val (.ref b68), .val (.int (7 : Int32)), .val (.ref (A 7)), .unset] [])) _
      refine XS.aload X134.here hx rfl (hb hby at_321) rfl rfl ?_
      show Steps p.tables e below (T134.setTop (mkF m 323 #[.val (.int p1), .val (.ref b1), .val (.ref b68), .val (.int (7 : Int32)), .val (.ref (A 7)), .unset] [(.ref (A 7))])) _
      refine st216 _ ?_
      show Steps p.tables e below (T216.setTop (mkF m 326 #[.val (.int p1), .val (.ref b1), .val (.ref b68), .val (.int (7 : Int32)), .val (.ref (A 7)), .unset] [(.ref (A 7))])) _
      refine XS.astore X216.here hx rfl (hb hby at_326) rfl rfl (l' := #[.val (.int p1), .val (.ref b1), .val (.ref b68), .val (.int (7 : Int32)), .val (.ref (A 7)), .val (.ref (A 7))]) rfl ?_
      show Steps p.tables e below (T216.setTop (mkF m 328 #[.val (.int p1), .val (.ref b1), .val (.ref b68), .val (.int (7 : Int32)), .val (.ref (A 7)), .val (.ref (A 7))] [])) _
      refine XS.aload X216.here hx rfl (hb hby at_328) rfl rfl ?_
      show Steps p.tables e below (T216.setTop (mkF m 330 #[.val (.int p1), .val (.ref b1), .val (.ref b68), .val (.int (7 : Int32)), .val (.ref (A 7)), .val (.ref (A 7))] [(.ref (A 7))])) _
      refine XS.aloadN X216.here hx rfl (hb hby at_330) rfl rfl ?_
      show Steps p.tables e below (T216.setTop (mkF m 331 #[.val (.int p1), .val (.ref b1), .val (.ref b68), .val (.int (7 : Int32)), .val (.ref (A 7)), .val (.ref (A 7))] [(.ref b68), (.ref (A 7))])) _
      refine XS.iloadN X216.here hx rfl (hb hby at_331) rfl ?_
      show Steps p.tables e below (T216.setTop (mkF m 332 #[.val (.int p1), .val (.ref b1), .val (.ref b68), .val (.int (7 : Int32)), .val (.ref (A 7)), .val (.ref (A 7))] [(.int (7 : Int32)), (.ref b68), (.ref (A 7))])) _
      refine X216.aaload hx (j := (7 : Int32)) (v := (.ref (A 7))) (by rw [e216]; exact Ar217.1) (State.isArrayOf_alike hZ.alike Ar217.2.1) rfl Ar217.2.2 hin217 hat217 (g := (mkF m 332 #[.val (.int p1), .val (.ref b1), .val (.ref b68), .val (.int (7 : Int32)), .val (.ref (A 7)), .val (.ref (A 7))] [(.int (7 : Int32)), (.ref b68), (.ref (A 7))])) rfl rfl (hb hby at_332) _ ?_
      show Steps p.tables e below (T216.setTop (mkF m 333 #[.val (.int p1), .val (.ref b1), .val (.ref b68), .val (.int (7 : Int32)), .val (.ref (A 7)), .val (.ref (A 7))] [(.ref (A 7)), (.ref (A 7))])) _
      refine Jvm.RoadKit.acmp (g := (mkF m 333 #[.val (.int p1), .val (.ref b1), .val (.ref b68), .val (.int (7 : Int32)), .val (.ref (A 7)), .val (.ref (A 7))] [(.ref (A 7)), (.ref (A 7))])) X216 hx rfl rfl rfl (pc0 := 333) (pc' := 338) (same := true) rfl (hb hby at_333) rfl (decide_eq_true rfl) (by decide) (by decide) ?_
      show Steps p.tables e below (T216.setTop (mkF m 338 #[.val (.int p1), .val (.ref b1), .val (.ref b68), .val (.int (7 : Int32)), .val (.ref (A 7)), .val (.ref (A 7))] [])) _
      refine XS.aload X216.here hx rfl (hb hby at_338) rfl rfl ?_
      show Steps p.tables e below (T216.setTop (mkF m 340 #[.val (.int p1), .val (.ref b1), .val (.ref b68), .val (.int (7 : Int32)), .val (.ref (A 7)), .val (.ref (A 7))] [(.ref (A 7))])) _
      refine st218 _ ?_
      show Steps p.tables e below (T218.setTop (mkF m 343 #[.val (.int p1), .val (.ref b1), .val (.ref b68), .val (.int (7 : Int32)), .val (.ref (A 7)), .val (.ref (A 7))] [(.ref (A 7))])) _
      refine XS.aload X218.here hx rfl (hb hby at_343) rfl rfl ?_
      show Steps p.tables e below (T218.setTop (mkF m 345 #[.val (.int p1), .val (.ref b1), .val (.ref b68), .val (.int (7 : Int32)), .val (.ref (A 7)), .val (.ref (A 7))] [(.ref (A 7)), (.ref (A 7))])) _
      refine Jvm.RoadKit.acmp (g := (mkF m 345 #[.val (.int p1), .val (.ref b1), .val (.ref b68), .val (.int (7 : Int32)), .val (.ref (A 7)), .val (.ref (A 7))] [(.ref (A 7)), (.ref (A 7))])) X218 hx rfl rfl rfl (pc0 := 345) (pc' := 348) (same := true) rfl (hb hby at_345) rfl (decide_eq_true rfl) (by decide) (by decide) ?_
      show Steps p.tables e below (T218.setTop (mkF m 348 #[.val (.int p1), .val (.ref b1), .val (.ref b68), .val (.int (7 : Int32)), .val (.ref (A 7)), .val (.ref (A 7))] [])) _
      refine XS.iconst X218.here hx rfl (hb hby at_348) ?_
      show Steps p.tables e below (T218.setTop (mkF m 349 #[.val (.int p1), .val (.ref b1), .val (.ref b68), .val (.int (7 : Int32)), .val (.ref (A 7)), .val (.ref (A 7))] [(.int (1 : Int32))])) _
      refine XS.goto X218.here hx rfl (pc0 := 349) (pc' := 353) rfl (hb hby at_349) (by decide) (by decide) ?_
      show Steps p.tables e below (T218.setTop (mkF m 353 #[.val (.int p1), .val (.ref b1), .val (.ref b68), .val (.int (7 : Int32)), .val (.ref (A 7)), .val (.ref (A 7))] [(.int (1 : Int32))])) _
      exact retN X218 hx (t := .boolean) Bd.returns (by simp) (hb hby at_353) hr
    · show LQ n0 _ T218.heap _
      exact ⟨rfl, N218, trivial⟩
  | 8, _, hk136 =>
    have fx219 : Arv Z h134 b1 k1 (.object "com/example/dongl/dongl/core/ErrorCode") (22 : Int32) [(.ref (A 0)), (.ref (A 1)), (.ref (A 2)), (.ref (A 3)), (.ref (A 4)), (.ref (A 5)), (.ref (A 6)), (.ref (A 7)), (.ref (A 8)), (.ref (A 9)), (.ref (A 10)), (.ref (A 11)), (.ref (A 12)), (.ref (A 13)), (.ref (A 14)), (.ref (A 15)), (.ref (A 16)), (.ref (A 17)), (.ref (A 18)), (.ref (A 19)), (.ref (A 20)), (.ref (A 21))] .null := (((((((((((((((((((((((V67.ext E68).other W71 (Nat.ne_of_lt lt_b1_b68)).other W74 (Nat.ne_of_lt lt_b1_b68)).other W77 (Nat.ne_of_lt lt_b1_b68)).other W80 (Nat.ne_of_lt lt_b1_b68)).other W83 (Nat.ne_of_lt lt_b1_b68)).other W86 (Nat.ne_of_lt lt_b1_b68)).other W89 (Nat.ne_of_lt lt_b1_b68)).other W92 (Nat.ne_of_lt lt_b1_b68)).other W95 (Nat.ne_of_lt lt_b1_b68)).other W98 (Nat.ne_of_lt lt_b1_b68)).other W101 (Nat.ne_of_lt lt_b1_b68)).other W104 (Nat.ne_of_lt lt_b1_b68)).other W107 (Nat.ne_of_lt lt_b1_b68)).other W110 (Nat.ne_of_lt lt_b1_b68)).other W113 (Nat.ne_of_lt lt_b1_b68)).other W116 (Nat.ne_of_lt lt_b1_b68)).other W119 (Nat.ne_of_lt lt_b1_b68)).other W122 (Nat.ne_of_lt lt_b1_b68)).other W125 (Nat.ne_of_lt lt_b1_b68)).other W128 (Nat.ne_of_lt lt_b1_b68)).other W131 (Nat.ne_of_lt lt_b1_b68)).other W134 (Nat.ne_of_lt lt_b1_b68))
    obtain ⟨cl220, Ar220, q220, Sz220, Nn220, Hh220, Gg220⟩ := (id fx219)
    have hin220 : ¬ ((8 : Int32) < 0 ∨ cl220.slots.size ≤ ((8 : Int32)).toNatClampNeg) := inb_of Sz220 ⟨by decide, by decide⟩
    have hat220 : cl220.slots[((8 : Int32)).toNatClampNeg]? = some (.ref (A 8)) := Has.at Hh220 hin220 rfl
    obtain ⟨_, _, ⟨T226, L226, k226, n226⟩, -, X226, ⟨Lc226, hQ226, l226, y226, z226⟩, st226⟩ := Jvm.LawKit.callS X134 hx (y := own_m0) hown (mvT hZ (hw _ (List.mem_of_getElem? (i := 49) rfl))) (mvT hZ (hw _ (List.mem_of_getElem? (i := 50) rfl))) (mvT hZ (hw _ (List.mem_of_getElem? (i := 51) rfl))) (mvT hZ (hw _ (List.mem_of_getElem? (i := 52) rfl))) (by decide) (backOf (W := 0) (rm21 l Z a0 hw [] h134 n0 p1 A K EN OL134) hZ (hw _ (List.mem_of_getElem? (i := 52) rfl)) (hw _ (List.mem_of_getElem? (i := 51) rfl)) (by decide) (by decide)) (g := (mkF m 323 #[.val (.int p1), .val (.ref b1), .val (.ref b68), .val (.int (8 : Int32)), .val (.ref (A 8)), .unset] [(.ref (A 8))])) rfl (by rw [hml]; rfl) (argsL := [(.ref (A 8))]) (rest := []) (lenOf own_pd1 rfl) rfl (by show 2 * 0 + _ ≤ _; exact Nat.le_of_eq rfl) (hb hby at_323) (fun _ _ => ⟨rfl, e134, (by decide : 2 + 0 ≤ _), (by decide : 44 + 0 ≤ _)⟩)
    dsimp only [Pt.U, Pt.locs, Pt.cells, Pt.slots] at X226 l226 y226 z226 st226 hQ226
    replace X226 := own_sub X226 l226 y226 z226
    obtain ⟨rfl, N226q, e226⟩ := hQ226
    have N226 := Fr.app NF134 N226q
    obtain ⟨cl227, Ar227, q227, Sz227, Nn227, Hh227, Gg227⟩ := (id V134)
    have hin227 : ¬ ((8 : Int32) < 0 ∨ cl227.slots.size ≤ ((8 : Int32)).toNatClampNeg) := inb_of Sz227 ⟨by decide, by decide⟩
    have hat227 : cl227.slots[((8 : Int32)).toNatClampNeg]? = some (.ref (A 20)) := Has.at Hh227 hin227 rfl
    obtain ⟨_, _, ⟨T228, L228, k228, n228⟩, -, X228, ⟨Lc228, hQ228, l228, y228, z228⟩, st228⟩ := Jvm.LawKit.callS X226 hx (y := own_m0) hown (mvT hZ (hw _ (List.mem_of_getElem? (i := 49) rfl))) (mvT hZ (hw _ (List.mem_of_getElem? (i := 50) rfl))) (mvT hZ (hw _ (List.mem_of_getElem? (i := 51) rfl))) (mvT hZ (hw _ (List.mem_of_getElem? (i := 52) rfl))) (by decide) (backOf (W := 0) (rm9 l Z a0 hw [] h134 n0 p1 A K EN OL134) hZ (hw _ (List.mem_of_getElem? (i := 52) rfl)) (hw _ (List.mem_of_getElem? (i := 51) rfl)) (by decide) (by decide)) (g := (mkF m 340 #[.val (.int p1), .val (.ref b1), .val (.ref b68), .val (.int (8 : Int32)), .val (.ref (A 8)), .val (.ref (A 20))] [(.ref (A 20))])) rfl (by rw [hml]; rfl) (argsL := [(.ref (A 20))]) (rest := []) (lenOf own_pd1 rfl) rfl (by show 2 * 0 + _ ≤ _; exact Nat.le_of_eq rfl) (hb hby at_340) (fun _ _ => ⟨rfl, e226, (by decide : 2 + 0 ≤ _), (by decide : 44 + 0 ≤ _)⟩)
    dsimp only [Pt.U, Pt.locs, Pt.cells, Pt.slots] at X228 l228 y228 z228 st228 hQ228
    replace X228 := own_sub X228 l228 y228 z228
    obtain ⟨rfl, N228q, e228⟩ := hQ228
    have N228 := Fr.app N226 N228q
    obtain ⟨fs, hr, hrun, hended, hW, hsame⟩ := X228.leave (v := some (.int (1 : Int32))) (fun h => by rw [Bd.returns] at h; cases h)
    refine ⟨_, _, pre135 _ ?_, hrun, hended, _, _, rfl, ?_, ⟨_, rfl⟩, hW, hsame.mono (by decide) (by decide)⟩
    · show Steps p.tables e below (T134.setTop (mkF m 315 #[.val (.int p1), .val (.ref b1), .val (.ref b68), .unset, .unset, .unset] [(.int ((p1 &&& (2147483647 : Int32)) % (22 : Int32)))])) _
      rw [hk136]
      show Steps p.tables e below (T134.setTop (mkF m 315 #[.val (.int p1), .val (.ref b1), .val (.ref b68), .unset, .unset, .unset] [(.int (8 : Int32))])) _
      refine XS.istoreN X134.here hx rfl (hb hby at_315) rfl (l' := #[.val (.int p1), .val (.ref b1), .val (.ref b68), .val (.int (8 : Int32)), .unset, .unset]) rfl ?_
      show Steps p.tables e below (T134.setTop (mkF m 316 #[.val (.int p1), .val (.ref b1), .val (.ref b68), .val (.int (8 : Int32)), .unset, .unset] [])) _
      refine XS.aloadN X134.here hx rfl (hb hby at_316) rfl rfl ?_
      show Steps p.tables e below (T134.setTop (mkF m 317 #[.val (.int p1), .val (.ref b1), .val (.ref b68), .val (.int (8 : Int32)), .unset, .unset] [(.ref b1)])) _
      refine XS.iloadN X134.here hx rfl (hb hby at_317) rfl ?_
      show Steps p.tables e below (T134.setTop (mkF m 318 #[.val (.int p1), .val (.ref b1), .val (.ref b68), .val (.int (8 : Int32)), .unset, .unset] [(.int (8 : Int32)), (.ref b1)])) _
      refine X134.aaload hx (j := (8 : Int32)) (v := (.ref (A 8))) (by rw [e134]; exact Ar220.1) (State.isArrayOf_alike hZ.alike Ar220.2.1) rfl Ar220.2.2 hin220 hat220 (g := (mkF m 318 #[.val (.int p1), .val (.ref b1), .val (.ref b68), .val (.int (8 : Int32)), .unset, .unset] [(.int (8 : Int32)), (.ref b1)])) rfl rfl (hb hby at_318) _ ?_
      show Steps p.tables e below (T134.setTop (mkF m 319 #[.val (.int p1), .val (.ref b1), .val (.ref b68), .val (.int (8 : Int32)), .unset, .unset] [(.ref (A 8))])) _
      refine XS.astore X134.here hx rfl (hb hby at_319) rfl rfl (l' := #[.val (.int p1), .val (.ref b1), .val (.ref b68), .val (.int (8 : Int32)), .val (.ref (A 8)), .unset]) rfl ?_
      show Steps p.tables e below (T134.setTop (mkF m 321 #[.val (.int p1), .val (.ref b1), .val (.ref b68), .val (.int (8 : Int32)), .val (.ref (A 8)), .unset] [])) _
      refine XS.aload X134.here hx rfl (hb hby at_321) rfl rfl ?_
      show Steps p.tables e below (T134.setTop (mkF m 323 #[.val (.int p1), .val (.ref b1), .val (.ref b68), .val (.int (8 : Int32)), .val (.ref (A 8)), .unset] [(.ref (A 8))])) _
      refine st226 _ ?_
      show Steps p.tables e below (T226.setTop (mkF m 326 #[.val (.int p1), .val (.ref b1), .val (.ref b68), .val (.int (8 : Int32)), .val (.ref (A 8)), .unset] [(.ref (A 20))])) _
      refine XS.astore X226.here hx rfl (hb hby at_326) rfl rfl (l' := #[.val (.int p1), .val (.ref b1), .val (.ref b68), .val (.int (8 : Int32)), .val (.ref (A 8)), .val (.ref (A 20))]) rfl ?_
      show Steps p.tables e below (T226.setTop (mkF m 328 #[.val (.int p1), .val (.ref b1), .val (.ref b68), .val (.int (8 : Int32)), .val (.ref (A 8)), .val (.ref (A 20))] [])) _
      refine XS.aload X226.here hx rfl (hb hby at_328) rfl rfl ?_
      show Steps p.tables e below (T226.setTop (mkF m 330 #[.val (.int p1), .val (.ref b1), .val (.ref b68), .val (.int (8 : Int32)), .val (.ref (A 8)), .val (.ref (A 20))] [(.ref (A 20))])) _
      refine XS.aloadN X226.here hx rfl (hb hby at_330) rfl rfl ?_
      show Steps p.tables e below (T226.setTop (mkF m 331 #[.val (.int p1), .val (.ref b1), .val (.ref b68), .val (.int (8 : Int32)), .val (.ref (A 8)), .val (.ref (A 20))] [(.ref b68), (.ref (A 20))])) _
      refine XS.iloadN X226.here hx rfl (hb hby at_331) rfl ?_
      show Steps p.tables e below (T226.setTop (mkF m 332 #[.val (.int p1), .val (.ref b1), .val (.ref b68), .val (.int (8 : Int32)), .val (.ref (A 8)), .val (.ref (A 20))] [(.int (8 : Int32)), (.ref b68), (.ref (A 20))])) _
      refine X226.aaload hx (j := (8 : Int32)) (v := (.ref (A 20))) (by rw [e226]; exact Ar227.1) (State.isArrayOf_alike hZ.alike Ar227.2.1) rfl Ar227.2.2 hin227 hat227 (g := (mkF m 332 #[.val (.int p1), .val (.ref b1), .val (.ref b68), .val (.int (8 : Int32)), .val (.ref (A 8)), .val (.ref (A 20))] [(.int (8 : Int32)), (.ref b68), (.ref (A 20))])) rfl rfl (hb hby at_332) _ ?_
      show Steps p.tables e below (T226.setTop (mkF m 333 #[.val (.int p1), .val (.ref b1), .val (.ref b68), .val (.int (8 : Int32)), .val (.ref (A 8)), .val (.ref (A 20))] [(.ref (A 20)), (.ref (A 20))])) _
      refine Jvm.RoadKit.acmp (g := (mkF m 333 #[.val (.int p1), .val (.ref b1), .val (.ref b68), .val (.int (8 : Int32)), .val (.ref (A 8)), .val (.ref (A 20))] [(.ref (A 20)), (.ref (A 20))])) X226 hx rfl rfl rfl (pc0 := 333) (pc' := 338) (same := true) rfl (hb hby at_333) rfl (decide_eq_true rfl) (by decide) (by decide) ?_
      show Steps p.tables e below (T226.setTop (mkF m 338 #[.val (.int p1), .val (.ref b1), .val (.ref b68), .val (.int (8 : Int32)), .val (.ref (A 8)), .val (.ref (A 20))] [])) _
      refine XS.aload X226.here hx rfl (hb hby at_338) rfl rfl ?_
      show Steps p.tables e below (T226.setTop (mkF m 340 #[.val (.int p1), .val (.ref b1), .val (.ref b68), .val (.int (8 : Int32)), .val (.ref (A 8)), .val (.ref (A 20))] [(.ref (A 20))])) _
      refine st228 _ ?_
      show Steps p.tables e below (T228.setTop (mkF m 343 #[.val (.int p1), .val (.ref b1), .val (.ref b68), .val (.int (8 : Int32)), .val (.ref (A 8)), .val (.ref (A 20))] [(.ref (A 20))])) _
      refine XS.aload X228.here hx rfl (hb hby at_343) rfl rfl ?_
      show Steps p.tables e below (T228.setTop (mkF m 345 #[.val (.int p1), .val (.ref b1), .val (.ref b68), .val (.int (8 : Int32)), .val (.ref (A 8)), .val (.ref (A 20))] [(.ref (A 20)), (.ref (A 20))])) _
      refine Jvm.RoadKit.acmp (g := (mkF m 345 #[.val (.int p1), .val (.ref b1), .val (.ref b68), .val (.int (8 : Int32)), .val (.ref (A 8)), .val (.ref (A 20))] [(.ref (A 20)), (.ref (A 20))])) X228 hx rfl rfl rfl (pc0 := 345) (pc' := 348) (same := true) rfl (hb hby at_345) rfl (decide_eq_true rfl) (by decide) (by decide) ?_
      show Steps p.tables e below (T228.setTop (mkF m 348 #[.val (.int p1), .val (.ref b1), .val (.ref b68), .val (.int (8 : Int32)), .val (.ref (A 8)), .val (.ref (A 20))] [])) _
      refine XS.iconst X228.here hx rfl (hb hby at_348) ?_
      show Steps p.tables e below (T228.setTop (mkF m 349 #[.val (.int p1), .val (.ref b1), .val (.ref b68), .val (.int (8 : Int32)), .val (.ref (A 8)), .val (.ref (A 20))] [(.int (1 : Int32))])) _
      refine XS.goto X228.here hx rfl (pc0 := 349) (pc' := 353) rfl (hb hby at_349) (by decide) (by decide) ?_
      show Steps p.tables e below (T228.setTop (mkF m 353 #[.val (.int p1), .val (.ref b1), .val (.ref b68), .val (.int (8 : Int32)), .val (.ref (A 8)), .val (.ref (A 20))] [(.int (1 : Int32))])) _
      exact retN X228 hx (t := .boolean) Bd.returns (by simp) (hb hby at_353) hr
    · show LQ n0 _ T228.heap _
      exact ⟨rfl, N228, trivial⟩
  | 9, _, hk136 =>
    have fx229 : Arv Z h134 b1 k1 (.object "com/example/dongl/dongl/core/ErrorCode") (22 : Int32) [(.ref (A 0)), (.ref (A 1)), (.ref (A 2)), (.ref (A 3)), (.ref (A 4)), (.ref (A 5)), (.ref (A 6)), (.ref (A 7)), (.ref (A 8)), (.ref (A 9)), (.ref (A 10)), (.ref (A 11)), (.ref (A 12)), (.ref (A 13)), (.ref (A 14)), (.ref (A 15)), (.ref (A 16)), (.ref (A 17)), (.ref (A 18)), (.ref (A 19)), (.ref (A 20)), (.ref (A 21))] .null := (((((((((((((((((((((((V67.ext E68).other W71 (Nat.ne_of_lt lt_b1_b68)).other W74 (Nat.ne_of_lt lt_b1_b68)).other W77 (Nat.ne_of_lt lt_b1_b68)).other W80 (Nat.ne_of_lt lt_b1_b68)).other W83 (Nat.ne_of_lt lt_b1_b68)).other W86 (Nat.ne_of_lt lt_b1_b68)).other W89 (Nat.ne_of_lt lt_b1_b68)).other W92 (Nat.ne_of_lt lt_b1_b68)).other W95 (Nat.ne_of_lt lt_b1_b68)).other W98 (Nat.ne_of_lt lt_b1_b68)).other W101 (Nat.ne_of_lt lt_b1_b68)).other W104 (Nat.ne_of_lt lt_b1_b68)).other W107 (Nat.ne_of_lt lt_b1_b68)).other W110 (Nat.ne_of_lt lt_b1_b68)).other W113 (Nat.ne_of_lt lt_b1_b68)).other W116 (Nat.ne_of_lt lt_b1_b68)).other W119 (Nat.ne_of_lt lt_b1_b68)).other W122 (Nat.ne_of_lt lt_b1_b68)).other W125 (Nat.ne_of_lt lt_b1_b68)).other W128 (Nat.ne_of_lt lt_b1_b68)).other W131 (Nat.ne_of_lt lt_b1_b68)).other W134 (Nat.ne_of_lt lt_b1_b68))
    obtain ⟨cl230, Ar230, q230, Sz230, Nn230, Hh230, Gg230⟩ := (id fx229)
    have hin230 : ¬ ((9 : Int32) < 0 ∨ cl230.slots.size ≤ ((9 : Int32)).toNatClampNeg) := inb_of Sz230 ⟨by decide, by decide⟩
    have hat230 : cl230.slots[((9 : Int32)).toNatClampNeg]? = some (.ref (A 9)) := Has.at Hh230 hin230 rfl
    obtain ⟨_, _, ⟨T236, L236, k236, n236⟩, -, X236, ⟨Lc236, hQ236, l236, y236, z236⟩, st236⟩ := Jvm.LawKit.callS X134 hx (y := own_m0) hown (mvT hZ (hw _ (List.mem_of_getElem? (i := 49) rfl))) (mvT hZ (hw _ (List.mem_of_getElem? (i := 50) rfl))) (mvT hZ (hw _ (List.mem_of_getElem? (i := 51) rfl))) (mvT hZ (hw _ (List.mem_of_getElem? (i := 52) rfl))) (by decide) (backOf (W := 0) (rm23 l Z a0 hw [] h134 n0 p1 A K EN OL134) hZ (hw _ (List.mem_of_getElem? (i := 52) rfl)) (hw _ (List.mem_of_getElem? (i := 51) rfl)) (by decide) (by decide)) (g := (mkF m 323 #[.val (.int p1), .val (.ref b1), .val (.ref b68), .val (.int (9 : Int32)), .val (.ref (A 9)), .unset] [(.ref (A 9))])) rfl (by rw [hml]; rfl) (argsL := [(.ref (A 9))]) (rest := []) (lenOf own_pd1 rfl) rfl (by show 2 * 0 + _ ≤ _; exact Nat.le_of_eq rfl) (hb hby at_323) (fun _ _ => ⟨rfl, e134, (by decide : 2 + 0 ≤ _), (by decide : 44 + 0 ≤ _)⟩)
    dsimp only [Pt.U, Pt.locs, Pt.cells, Pt.slots] at X236 l236 y236 z236 st236 hQ236
    replace X236 := own_sub X236 l236 y236 z236
    obtain ⟨rfl, N236q, e236⟩ := hQ236
    have N236 := Fr.app NF134 N236q
    obtain ⟨cl237, Ar237, q237, Sz237, Nn237, Hh237, Gg237⟩ := (id V134)
    have hin237 : ¬ ((9 : Int32) < 0 ∨ cl237.slots.size ≤ ((9 : Int32)).toNatClampNeg) := inb_of Sz237 ⟨by decide, by decide⟩
    have hat237 : cl237.slots[((9 : Int32)).toNatClampNeg]? = some (.ref (A 19)) := Has.at Hh237 hin237 rfl
    obtain ⟨_, _, ⟨T238, L238, k238, n238⟩, -, X238, ⟨Lc238, hQ238, l238, y238, z238⟩, st238⟩ := Jvm.LawKit.callS X236 hx (y := own_m0) hown (mvT hZ (hw _ (List.mem_of_getElem? (i := 49) rfl))) (mvT hZ (hw _ (List.mem_of_getElem? (i := 50) rfl))) (mvT hZ (hw _ (List.mem_of_getElem? (i := 51) rfl))) (mvT hZ (hw _ (List.mem_of_getElem? (i := 52) rfl))) (by decide) (backOf (W := 0) (rm15 l Z a0 hw [] h134 n0 p1 A K EN OL134) hZ (hw _ (List.mem_of_getElem? (i := 52) rfl)) (hw _ (List.mem_of_getElem? (i := 51) rfl)) (by decide) (by decide)) (g := (mkF m 340 #[.val (.int p1), .val (.ref b1), .val (.ref b68), .val (.int (9 : Int32)), .val (.ref (A 9)), .val (.ref (A 19))] [(.ref (A 19))])) rfl (by rw [hml]; rfl) (argsL := [(.ref (A 19))]) (rest := []) (lenOf own_pd1 rfl) rfl (by show 2 * 0 + _ ≤ _; exact Nat.le_of_eq rfl) (hb hby at_340) (fun _ _ => ⟨rfl, e236, (by decide : 2 + 0 ≤ _), (by decide : 44 + 0 ≤ _)⟩)
    dsimp only [Pt.U, Pt.locs, Pt.cells, Pt.slots] at X238 l238 y238 z238 st238 hQ238
    replace X238 := own_sub X238 l238 y238 z238
    obtain ⟨rfl, N238q, e238⟩ := hQ238
    have N238 := Fr.app N236 N238q
    obtain ⟨fs, hr, hrun, hended, hW, hsame⟩ := X238.leave (v := some (.int (1 : Int32))) (fun h => by rw [Bd.returns] at h; cases h)
    refine ⟨_, _, pre135 _ ?_, hrun, hended, _, _, rfl, ?_, ⟨_, rfl⟩, hW, hsame.mono (by decide) (by decide)⟩
    · show Steps p.tables e below (T134.setTop (mkF m 315 #[.val (.int p1), .val (.ref b1), .val (.ref b68), .unset, .unset, .unset] [(.int ((p1 &&& (2147483647 : Int32)) % (22 : Int32)))])) _
      rw [hk136]
      show Steps p.tables e below (T134.setTop (mkF m 315 #[.val (.int p1), .val (.ref b1), .val (.ref b68), .unset, .unset, .unset] [(.int (9 : Int32))])) _
      refine XS.istoreN X134.here hx rfl (hb hby at_315) rfl (l' := #[.val (.int p1), .val (.ref b1), .val (.ref b68), .val (.int (9 : Int32)), .unset, .unset]) rfl ?_
      show Steps p.tables e below (T134.setTop (mkF m 316 #[.val (.int p1), .val (.ref b1), .val (.ref b68), .val (.int (9 : Int32)), .unset, .unset] [])) _
      refine XS.aloadN X134.here hx rfl (hb hby at_316) rfl rfl ?_
      show Steps p.tables e below (T134.setTop (mkF m 317 #[.val (.int p1), .val (.ref b1), .val (.ref b68), .val (.int (9 : Int32)), .unset, .unset] [(.ref b1)])) _
      refine XS.iloadN X134.here hx rfl (hb hby at_317) rfl ?_
      show Steps p.tables e below (T134.setTop (mkF m 318 #[.val (.int p1), .val (.ref b1), .val (.ref b68), .val (.int (9 : Int32)), .unset, .unset] [(.int (9 : Int32)), (.ref b1)])) _
      refine X134.aaload hx (j := (9 : Int32)) (v := (.ref (A 9))) (by rw [e134]; exact Ar230.1) (State.isArrayOf_alike hZ.alike Ar230.2.1) rfl Ar230.2.2 hin230 hat230 (g := (mkF m 318 #[.val (.int p1), .val (.ref b1), .val (.ref b68), .val (.int (9 : Int32)), .unset, .unset] [(.int (9 : Int32)), (.ref b1)])) rfl rfl (hb hby at_318) _ ?_
      show Steps p.tables e below (T134.setTop (mkF m 319 #[.val (.int p1), .val (.ref b1), .val (.ref b68), .val (.int (9 : Int32)), .unset, .unset] [(.ref (A 9))])) _
      refine XS.astore X134.here hx rfl (hb hby at_319) rfl rfl (l' := #[.val (.int p1), .val (.ref b1), .val (.ref b68), .val (.int (9 : Int32)), .val (.ref (A 9)), .unset]) rfl ?_
      show Steps p.tables e below (T134.setTop (mkF m 321 #[.val (.int p1), .val (.ref b1), .val (.ref b68), .val (.int (9 : Int32)), .val (.ref (A 9)), .unset] [])) _
      refine XS.aload X134.here hx rfl (hb hby at_321) rfl rfl ?_
      show Steps p.tables e below (T134.setTop (mkF m 323 #[.val (.int p1), .val (.ref b1), .val (.ref b68), .val (.int (9 : Int32)), .val (.ref (A 9)), .unset] [(.ref (A 9))])) _
      refine st236 _ ?_
      show Steps p.tables e below (T236.setTop (mkF m 326 #[.val (.int p1), .val (.ref b1), .val (.ref b68), .val (.int (9 : Int32)), .val (.ref (A 9)), .unset] [(.ref (A 19))])) _
      refine XS.astore X236.here hx rfl (hb hby at_326) rfl rfl (l' := #[.val (.int p1), .val (.ref b1), .val (.ref b68), .val (.int (9 : Int32)), .val (.ref (A 9)), .val (.ref (A 19))]) rfl ?_
      show Steps p.tables e below (T236.setTop (mkF m 328 #[.val (.int p1), .val (.ref b1), .val (.ref b68), .val (.int (9 : Int32)), .val (.ref (A 9)), .val (.ref (A 19))] [])) _
      refine XS.aload X236.here hx rfl (hb hby at_328) rfl rfl ?_
      show Steps p.tables e below (T236.setTop (mkF m 330 #[.val (.int p1), .val (.ref b1), .val (.ref b68), .val (.int (9 : Int32)), .val (.ref (A 9)), .val (.ref (A 19))] [(.ref (A 19))])) _
      refine XS.aloadN X236.here hx rfl (hb hby at_330) rfl rfl ?_
      show Steps p.tables e below (T236.setTop (mkF m 331 #[.val (.int p1), .val (.ref b1), .val (.ref b68), .val (.int (9 : Int32)), .val (.ref (A 9)), .val (.ref (A 19))] [(.ref b68), (.ref (A 19))])) _
      refine XS.iloadN X236.here hx rfl (hb hby at_331) rfl ?_
      show Steps p.tables e below (T236.setTop (mkF m 332 #[.val (.int p1), .val (.ref b1), .val (.ref b68), .val (.int (9 : Int32)), .val (.ref (A 9)), .val (.ref (A 19))] [(.int (9 : Int32)), (.ref b68), (.ref (A 19))])) _
      refine X236.aaload hx (j := (9 : Int32)) (v := (.ref (A 19))) (by rw [e236]; exact Ar237.1) (State.isArrayOf_alike hZ.alike Ar237.2.1) rfl Ar237.2.2 hin237 hat237 (g := (mkF m 332 #[.val (.int p1), .val (.ref b1), .val (.ref b68), .val (.int (9 : Int32)), .val (.ref (A 9)), .val (.ref (A 19))] [(.int (9 : Int32)), (.ref b68), (.ref (A 19))])) rfl rfl (hb hby at_332) _ ?_
      show Steps p.tables e below (T236.setTop (mkF m 333 #[.val (.int p1), .val (.ref b1), .val (.ref b68), .val (.int (9 : Int32)), .val (.ref (A 9)), .val (.ref (A 19))] [(.ref (A 19)), (.ref (A 19))])) _
      refine Jvm.RoadKit.acmp (g := (mkF m 333 #[.val (.int p1), .val (.ref b1), .val (.ref b68), .val (.int (9 : Int32)), .val (.ref (A 9)), .val (.ref (A 19))] [(.ref (A 19)), (.ref (A 19))])) X236 hx rfl rfl rfl (pc0 := 333) (pc' := 338) (same := true) rfl (hb hby at_333) rfl (decide_eq_true rfl) (by decide) (by decide) ?_
      show Steps p.tables e below (T236.setTop (mkF m 338 #[.val (.int p1), .val (.ref b1), .val (.ref b68), .val (.int (9 : Int32)), .val (.ref (A 9)), .val (.ref (A 19))] [])) _
      refine XS.aload X236.here hx rfl (hb hby at_338) rfl rfl ?_
      show Steps p.tables e below (T236.setTop (mkF m 340 #[.val (.int p1), .val (.ref b1), .val (.ref b68), .val (.int (9 : Int32)), .val (.ref (A 9)), .val (.ref (A 19))] [(.ref (A 19))])) _
      refine st238 _ ?_
      show Steps p.tables e below (T238.setTop (mkF m 343 #[.val (.int p1), .val (.ref b1), .val (.ref b68), .val (.int (9 : Int32)), .val (.ref (A 9)), .val (.ref (A 19))] [(.ref (A 19))])) _
      refine XS.aload X238.here hx rfl (hb hby at_343) rfl rfl ?_
      show Steps p.tables e below (T238.setTop (mkF m 345 #[.val (.int p1), .val (.ref b1), .val (.ref b68), .val (.int (9 : Int32)), .val (.ref (A 9)), .val (.ref (A 19))] [(.ref (A 19)), (.ref (A 19))])) _
      refine Jvm.RoadKit.acmp (g := (mkF m 345 #[.val (.int p1), .val (.ref b1), .val (.ref b68), .val (.int (9 : Int32)), .val (.ref (A 9)), .val (.ref (A 19))] [(.ref (A 19)), (.ref (A 19))])) X238 hx rfl rfl rfl (pc0 := 345) (pc' := 348) (same := true) rfl (hb hby at_345) rfl (decide_eq_true rfl) (by decide) (by decide) ?_
      show Steps p.tables e below (T238.setTop (mkF m 348 #[.val (.int p1), .val (.ref b1), .val (.ref b68), .val (.int (9 : Int32)), .val (.ref (A 9)), .val (.ref (A 19))] [])) _
      refine XS.iconst X238.here hx rfl (hb hby at_348) ?_
      show Steps p.tables e below (T238.setTop (mkF m 349 #[.val (.int p1), .val (.ref b1), .val (.ref b68), .val (.int (9 : Int32)), .val (.ref (A 9)), .val (.ref (A 19))] [(.int (1 : Int32))])) _
      refine XS.goto X238.here hx rfl (pc0 := 349) (pc' := 353) rfl (hb hby at_349) (by decide) (by decide) ?_
      show Steps p.tables e below (T238.setTop (mkF m 353 #[.val (.int p1), .val (.ref b1), .val (.ref b68), .val (.int (9 : Int32)), .val (.ref (A 9)), .val (.ref (A 19))] [(.int (1 : Int32))])) _
      exact retN X238 hx (t := .boolean) Bd.returns (by simp) (hb hby at_353) hr
    · show LQ n0 _ T238.heap _
      exact ⟨rfl, N238, trivial⟩
  | 10, _, hk136 =>
    have fx239 : Arv Z h134 b1 k1 (.object "com/example/dongl/dongl/core/ErrorCode") (22 : Int32) [(.ref (A 0)), (.ref (A 1)), (.ref (A 2)), (.ref (A 3)), (.ref (A 4)), (.ref (A 5)), (.ref (A 6)), (.ref (A 7)), (.ref (A 8)), (.ref (A 9)), (.ref (A 10)), (.ref (A 11)), (.ref (A 12)), (.ref (A 13)), (.ref (A 14)), (.ref (A 15)), (.ref (A 16)), (.ref (A 17)), (.ref (A 18)), (.ref (A 19)), (.ref (A 20)), (.ref (A 21))] .null := (((((((((((((((((((((((V67.ext E68).other W71 (Nat.ne_of_lt lt_b1_b68)).other W74 (Nat.ne_of_lt lt_b1_b68)).other W77 (Nat.ne_of_lt lt_b1_b68)).other W80 (Nat.ne_of_lt lt_b1_b68)).other W83 (Nat.ne_of_lt lt_b1_b68)).other W86 (Nat.ne_of_lt lt_b1_b68)).other W89 (Nat.ne_of_lt lt_b1_b68)).other W92 (Nat.ne_of_lt lt_b1_b68)).other W95 (Nat.ne_of_lt lt_b1_b68)).other W98 (Nat.ne_of_lt lt_b1_b68)).other W101 (Nat.ne_of_lt lt_b1_b68)).other W104 (Nat.ne_of_lt lt_b1_b68)).other W107 (Nat.ne_of_lt lt_b1_b68)).other W110 (Nat.ne_of_lt lt_b1_b68)).other W113 (Nat.ne_of_lt lt_b1_b68)).other W116 (Nat.ne_of_lt lt_b1_b68)).other W119 (Nat.ne_of_lt lt_b1_b68)).other W122 (Nat.ne_of_lt lt_b1_b68)).other W125 (Nat.ne_of_lt lt_b1_b68)).other W128 (Nat.ne_of_lt lt_b1_b68)).other W131 (Nat.ne_of_lt lt_b1_b68)).other W134 (Nat.ne_of_lt lt_b1_b68))
    obtain ⟨cl240, Ar240, q240, Sz240, Nn240, Hh240, Gg240⟩ := (id fx239)
    have hin240 : ¬ ((10 : Int32) < 0 ∨ cl240.slots.size ≤ ((10 : Int32)).toNatClampNeg) := inb_of Sz240 ⟨by decide, by decide⟩
    have hat240 : cl240.slots[((10 : Int32)).toNatClampNeg]? = some (.ref (A 10)) := Has.at Hh240 hin240 rfl
    obtain ⟨_, _, ⟨T245, L245, k245, n245⟩, -, X245, ⟨Lc245, hQ245, l245, y245, z245⟩, st245⟩ := Jvm.LawKit.callS X134 hx (y := own_m0) hown (mvT hZ (hw _ (List.mem_of_getElem? (i := 49) rfl))) (mvT hZ (hw _ (List.mem_of_getElem? (i := 50) rfl))) (mvT hZ (hw _ (List.mem_of_getElem? (i := 51) rfl))) (mvT hZ (hw _ (List.mem_of_getElem? (i := 52) rfl))) (by decide) (backOf (W := 0) (rm25 l Z a0 hw [] h134 n0 p1 A K EN OL134) hZ (hw _ (List.mem_of_getElem? (i := 52) rfl)) (hw _ (List.mem_of_getElem? (i := 51) rfl)) (by decide) (by decide)) (g := (mkF m 323 #[.val (.int p1), .val (.ref b1), .val (.ref b68), .val (.int (10 : Int32)), .val (.ref (A 10)), .unset] [(.ref (A 10))])) rfl (by rw [hml]; rfl) (argsL := [(.ref (A 10))]) (rest := []) (lenOf own_pd1 rfl) rfl (by show 2 * 0 + _ ≤ _; exact Nat.le_of_eq rfl) (hb hby at_323) (fun _ _ => ⟨rfl, e134, (by decide : 2 + 0 ≤ _), (by decide : 44 + 0 ≤ _)⟩)
    dsimp only [Pt.U, Pt.locs, Pt.cells, Pt.slots] at X245 l245 y245 z245 st245 hQ245
    replace X245 := own_sub X245 l245 y245 z245
    obtain ⟨rfl, N245q, e245⟩ := hQ245
    have N245 := Fr.app NF134 N245q
    obtain ⟨cl246, Ar246, q246, Sz246, Nn246, Hh246, Gg246⟩ := (id V134)
    have hin246 : ¬ ((10 : Int32) < 0 ∨ cl246.slots.size ≤ ((10 : Int32)).toNatClampNeg) := inb_of Sz246 ⟨by decide, by decide⟩
    have hat246 : cl246.slots[((10 : Int32)).toNatClampNeg]? = some (.ref (A 10)) := Has.at Hh246 hin246 rfl
    obtain ⟨_, _, ⟨T247, L247, k247, n247⟩, -, X247, ⟨Lc247, hQ247, l247, y247, z247⟩, st247⟩ := Jvm.LawKit.callS X245 hx (y := own_m0) hown (mvT hZ (hw _ (List.mem_of_getElem? (i := 49) rfl))) (mvT hZ (hw _ (List.mem_of_getElem? (i := 50) rfl))) (mvT hZ (hw _ (List.mem_of_getElem? (i := 51) rfl))) (mvT hZ (hw _ (List.mem_of_getElem? (i := 52) rfl))) (by decide) (backOf (W := 0) (rm25 l Z a0 hw [] h134 n0 p1 A K EN OL134) hZ (hw _ (List.mem_of_getElem? (i := 52) rfl)) (hw _ (List.mem_of_getElem? (i := 51) rfl)) (by decide) (by decide)) (g := (mkF m 340 #[.val (.int p1), .val (.ref b1), .val (.ref b68), .val (.int (10 : Int32)), .val (.ref (A 10)), .val (.ref (A 10))] [(.ref (A 10))])) rfl (by rw [hml]; rfl) (argsL := [(.ref (A 10))]) (rest := []) (lenOf own_pd1 rfl) rfl (by show 2 * 0 + _ ≤ _; exact Nat.le_of_eq rfl) (hb hby at_340) (fun _ _ => ⟨rfl, e245, (by decide : 2 + 0 ≤ _), (by decide : 44 + 0 ≤ _)⟩)
    dsimp only [Pt.U, Pt.locs, Pt.cells, Pt.slots] at X247 l247 y247 z247 st247 hQ247
    replace X247 := own_sub X247 l247 y247 z247
    obtain ⟨rfl, N247q, e247⟩ := hQ247
    have N247 := Fr.app N245 N247q
    obtain ⟨fs, hr, hrun, hended, hW, hsame⟩ := X247.leave (v := some (.int (1 : Int32))) (fun h => by rw [Bd.returns] at h; cases h)
    refine ⟨_, _, pre135 _ ?_, hrun, hended, _, _, rfl, ?_, ⟨_, rfl⟩, hW, hsame.mono (by decide) (by decide)⟩
    · show Steps p.tables e below (T134.setTop (mkF m 315 #[.val (.int p1), .val (.ref b1), .val (.ref b68), .unset, .unset, .unset] [(.int ((p1 &&& (2147483647 : Int32)) % (22 : Int32)))])) _
      rw [hk136]
      show Steps p.tables e below (T134.setTop (mkF m 315 #[.val (.int p1), .val (.ref b1), .val (.ref b68), .unset, .unset, .unset] [(.int (10 : Int32))])) _
      refine XS.istoreN X134.here hx rfl (hb hby at_315) rfl (l' := #[.val (.int p1), .val (.ref b1), .val (.ref b68), .val (.int (10 : Int32)), .unset, .unset]) rfl ?_
      show Steps p.tables e below (T134.setTop (mkF m 316 #[.val (.int p1), .val (.ref b1), .val (.ref b68), .val (.int (10 : Int32)), .unset, .unset] [])) _
      refine XS.aloadN X134.here hx rfl (hb hby at_316) rfl rfl ?_
      show Steps p.tables e below (T134.setTop (mkF m 317 #[.val (.int p1), .val (.ref b1), .val (.ref b68), .val (.int (10 : Int32)), .unset, .unset] [(.ref b1)])) _
      refine XS.iloadN X134.here hx rfl (hb hby at_317) rfl ?_
      show Steps p.tables e below (T134.setTop (mkF m 318 #[.val (.int p1), .val (.ref b1), .val (.ref b68), .val (.int (10 : Int32)), .unset, .unset] [(.int (10 : Int32)), (.ref b1)])) _
      refine X134.aaload hx (j := (10 : Int32)) (v := (.ref (A 10))) (by rw [e134]; exact Ar240.1) (State.isArrayOf_alike hZ.alike Ar240.2.1) rfl Ar240.2.2 hin240 hat240 (g := (mkF m 318 #[.val (.int p1), .val (.ref b1), .val (.ref b68), .val (.int (10 : Int32)), .unset, .unset] [(.int (10 : Int32)), (.ref b1)])) rfl rfl (hb hby at_318) _ ?_
      show Steps p.tables e below (T134.setTop (mkF m 319 #[.val (.int p1), .val (.ref b1), .val (.ref b68), .val (.int (10 : Int32)), .unset, .unset] [(.ref (A 10))])) _
      refine XS.astore X134.here hx rfl (hb hby at_319) rfl rfl (l' := #[.val (.int p1), .val (.ref b1), .val (.ref b68), .val (.int (10 : Int32)), .val (.ref (A 10)), .unset]) rfl ?_
      show Steps p.tables e below (T134.setTop (mkF m 321 #[.val (.int p1), .val (.ref b1), .val (.ref b68), .val (.int (10 : Int32)), .val (.ref (A 10)), .unset] [])) _
      refine XS.aload X134.here hx rfl (hb hby at_321) rfl rfl ?_
      show Steps p.tables e below (T134.setTop (mkF m 323 #[.val (.int p1), .val (.ref b1), .val (.ref b68), .val (.int (10 : Int32)), .val (.ref (A 10)), .unset] [(.ref (A 10))])) _
      refine st245 _ ?_
      show Steps p.tables e below (T245.setTop (mkF m 326 #[.val (.int p1), .val (.ref b1), .val (.ref b68), .val (.int (10 : Int32)), .val (.ref (A 10)), .unset] [(.ref (A 10))])) _
      refine XS.astore X245.here hx rfl (hb hby at_326) rfl rfl (l' := #[.val (.int p1), .val (.ref b1), .val (.ref b68), .val (.int (10 : Int32)), .val (.ref (A 10)), .val (.ref (A 10))]) rfl ?_
      show Steps p.tables e below (T245.setTop (mkF m 328 #[.val (.int p1), .val (.ref b1), .val (.ref b68), .val (.int (10 : Int32)), .val (.ref (A 10)), .val (.ref (A 10))] [])) _
      refine XS.aload X245.here hx rfl (hb hby at_328) rfl rfl ?_
      show Steps p.tables e below (T245.setTop (mkF m 330 #[.val (.int p1), .val (.ref b1), .val (.ref b68), .val (.int (10 : Int32)), .val (.ref (A 10)), .val (.ref (A 10))] [(.ref (A 10))])) _
      refine XS.aloadN X245.here hx rfl (hb hby at_330) rfl rfl ?_
      show Steps p.tables e below (T245.setTop (mkF m 331 #[.val (.int p1), .val (.ref b1), .val (.ref b68), .val (.int (10 : Int32)), .val (.ref (A 10)), .val (.ref (A 10))] [(.ref b68), (.ref (A 10))])) _
      refine XS.iloadN X245.here hx rfl (hb hby at_331) rfl ?_
      show Steps p.tables e below (T245.setTop (mkF m 332 #[.val (.int p1), .val (.ref b1), .val (.ref b68), .val (.int (10 : Int32)), .val (.ref (A 10)), .val (.ref (A 10))] [(.int (10 : Int32)), (.ref b68), (.ref (A 10))])) _
      refine X245.aaload hx (j := (10 : Int32)) (v := (.ref (A 10))) (by rw [e245]; exact Ar246.1) (State.isArrayOf_alike hZ.alike Ar246.2.1) rfl Ar246.2.2 hin246 hat246 (g := (mkF m 332 #[.val (.int p1), .val (.ref b1), .val (.ref b68), .val (.int (10 : Int32)), .val (.ref (A 10)), .val (.ref (A 10))] [(.int (10 : Int32)), (.ref b68), (.ref (A 10))])) rfl rfl (hb hby at_332) _ ?_
      show Steps p.tables e below (T245.setTop (mkF m 333 #[.val (.int p1), .val (.ref b1), .val (.ref b68), .val (.int (10 : Int32)), .val (.ref (A 10)), .val (.ref (A 10))] [(.ref (A 10)), (.ref (A 10))])) _
      refine Jvm.RoadKit.acmp (g := (mkF m 333 #[.val (.int p1), .val (.ref b1), .val (.ref b68), .val (.int (10 : Int32)), .val (.ref (A 10)), .val (.ref (A 10))] [(.ref (A 10)), (.ref (A 10))])) X245 hx rfl rfl rfl (pc0 := 333) (pc' := 338) (same := true) rfl (hb hby at_333) rfl (decide_eq_true rfl) (by decide) (by decide) ?_
      show Steps p.tables e below (T245.setTop (mkF m 338 #[.val (.int p1), .val (.ref b1), .val (.ref b68), .val (.int (10 : Int32)), .val (.ref (A 10)), .val (.ref (A 10))] [])) _
      refine XS.aload X245.here hx rfl (hb hby at_338) rfl rfl ?_
      show Steps p.tables e below (T245.setTop (mkF m 340 #[.val (.int p1), .val (.ref b1), .val (.ref b68), .val (.int (10 : Int32)), .val (.ref (A 10)), .val (.ref (A 10))] [(.ref (A 10))])) _
      refine st247 _ ?_
      show Steps p.tables e below (T247.setTop (mkF m 343 #[.val (.int p1), .val (.ref b1), .val (.ref b68), .val (.int (10 : Int32)), .val (.ref (A 10)), .val (.ref (A 10))] [(.ref (A 10))])) _
      refine XS.aload X247.here hx rfl (hb hby at_343) rfl rfl ?_
      show Steps p.tables e below (T247.setTop (mkF m 345 #[.val (.int p1), .val (.ref b1), .val (.ref b68), .val (.int (10 : Int32)), .val (.ref (A 10)), .val (.ref (A 10))] [(.ref (A 10)), (.ref (A 10))])) _
      refine Jvm.RoadKit.acmp (g := (mkF m 345 #[.val (.int p1), .val (.ref b1), .val (.ref b68), .val (.int (10 : Int32)), .val (.ref (A 10)), .val (.ref (A 10))] [(.ref (A 10)), (.ref (A 10))])) X247 hx rfl rfl rfl (pc0 := 345) (pc' := 348) (same := true) rfl (hb hby at_345) rfl (decide_eq_true rfl) (by decide) (by decide) ?_
      show Steps p.tables e below (T247.setTop (mkF m 348 #[.val (.int p1), .val (.ref b1), .val (.ref b68), .val (.int (10 : Int32)), .val (.ref (A 10)), .val (.ref (A 10))] [])) _
      refine XS.iconst X247.here hx rfl (hb hby at_348) ?_
      show Steps p.tables e below (T247.setTop (mkF m 349 #[.val (.int p1), .val (.ref b1), .val (.ref b68), .val (.int (10 : Int32)), .val (.ref (A 10)), .val (.ref (A 10))] [(.int (1 : Int32))])) _
      refine XS.goto X247.here hx rfl (pc0 := 349) (pc' := 353) rfl (hb hby at_349) (by decide) (by decide) ?_
      show Steps p.tables e below (T247.setTop (mkF m 353 #[.val (.int p1), .val (.ref b1), .val (.ref b68), .val (.int (10 : Int32)), .val (.ref (A 10)), .val (.ref (A 10))] [(.int (1 : Int32))])) _
      exact retN X247 hx (t := .boolean) Bd.returns (by simp) (hb hby at_353) hr
    · show LQ n0 _ T247.heap _
      exact ⟨rfl, N247, trivial⟩
  | 11, _, hk136 =>
    have fx248 : Arv Z h134 b1 k1 (.object "com/example/dongl/dongl/core/ErrorCode") (22 : Int32) [(.ref (A 0)), (.ref (A 1)), (.ref (A 2)), (.ref (A 3)), (.ref (A 4)), (.ref (A 5)), (.ref (A 6)), (.ref (A 7)), (.ref (A 8)), (.ref (A 9)), (.ref (A 10)), (.ref (A 11)), (.ref (A 12)), (.ref (A 13)), (.ref (A 14)), (.ref (A 15)), (.ref (A 16)), (.ref (A 17)), (.ref (A 18)), (.ref (A 19)), (.ref (A 20)), (.ref (A 21))] .null := (((((((((((((((((((((((V67.ext E68).other W71 (Nat.ne_of_lt lt_b1_b68)).other W74 (Nat.ne_of_lt lt_b1_b68)).other W77 (Nat.ne_of_lt lt_b1_b68)).other W80 (Nat.ne_of_lt lt_b1_b68)).other W83 (Nat.ne_of_lt lt_b1_b68)).other W86 (Nat.ne_of_lt lt_b1_b68)).other W89 (Nat.ne_of_lt lt_b1_b68)).other W92 (Nat.ne_of_lt lt_b1_b68)).other W95 (Nat.ne_of_lt lt_b1_b68)).other W98 (Nat.ne_of_lt lt_b1_b68)).other W101 (Nat.ne_of_lt lt_b1_b68)).other W104 (Nat.ne_of_lt lt_b1_b68)).other W107 (Nat.ne_of_lt lt_b1_b68)).other W110 (Nat.ne_of_lt lt_b1_b68)).other W113 (Nat.ne_of_lt lt_b1_b68)).other W116 (Nat.ne_of_lt lt_b1_b68)).other W119 (Nat.ne_of_lt lt_b1_b68)).other W122 (Nat.ne_of_lt lt_b1_b68)).other W125 (Nat.ne_of_lt lt_b1_b68)).other W128 (Nat.ne_of_lt lt_b1_b68)).other W131 (Nat.ne_of_lt lt_b1_b68)).other W134 (Nat.ne_of_lt lt_b1_b68))
    obtain ⟨cl249, Ar249, q249, Sz249, Nn249, Hh249, Gg249⟩ := (id fx248)
    have hin249 : ¬ ((11 : Int32) < 0 ∨ cl249.slots.size ≤ ((11 : Int32)).toNatClampNeg) := inb_of Sz249 ⟨by decide, by decide⟩
    have hat249 : cl249.slots[((11 : Int32)).toNatClampNeg]? = some (.ref (A 11)) := Has.at Hh249 hin249 rfl
    obtain ⟨_, _, ⟨T255, L255, k255, n255⟩, -, X255, ⟨Lc255, hQ255, l255, y255, z255⟩, st255⟩ := Jvm.LawKit.callS X134 hx (y := own_m0) hown (mvT hZ (hw _ (List.mem_of_getElem? (i := 49) rfl))) (mvT hZ (hw _ (List.mem_of_getElem? (i := 50) rfl))) (mvT hZ (hw _ (List.mem_of_getElem? (i := 51) rfl))) (mvT hZ (hw _ (List.mem_of_getElem? (i := 52) rfl))) (by decide) (backOf (W := 0) (rm27 l Z a0 hw [] h134 n0 p1 A K EN OL134) hZ (hw _ (List.mem_of_getElem? (i := 52) rfl)) (hw _ (List.mem_of_getElem? (i := 51) rfl)) (by decide) (by decide)) (g := (mkF m 323 #[.val (.int p1), .val (.ref b1), .val (.ref b68), .val (.int (11 : Int32)), .val (.ref (A 11)), .unset] [(.ref (A 11))])) rfl (by rw [hml]; rfl) (argsL := [(.ref (A 11))]) (rest := []) (lenOf own_pd1 rfl) rfl (by show 2 * 0 + _ ≤ _; exact Nat.le_of_eq rfl) (hb hby at_323) (fun _ _ => ⟨rfl, e134, (by decide : 2 + 0 ≤ _), (by decide : 44 + 0 ≤ _)⟩)
    dsimp only [Pt.U, Pt.locs, Pt.cells, Pt.slots] at X255 l255 y255 z255 st255 hQ255
    replace X255 := own_sub X255 l255 y255 z255
    obtain ⟨rfl, N255q, e255⟩ := hQ255
    have N255 := Fr.app NF134 N255q
    obtain ⟨cl256, Ar256, q256, Sz256, Nn256, Hh256, Gg256⟩ := (id V134)
    have hin256 : ¬ ((11 : Int32) < 0 ∨ cl256.slots.size ≤ ((11 : Int32)).toNatClampNeg) := inb_of Sz256 ⟨by decide, by decide⟩
    have hat256 : cl256.slots[((11 : Int32)).toNatClampNeg]? = some (.ref (A 19)) := Has.at Hh256 hin256 rfl
    obtain ⟨_, _, ⟨T257, L257, k257, n257⟩, -, X257, ⟨Lc257, hQ257, l257, y257, z257⟩, st257⟩ := Jvm.LawKit.callS X255 hx (y := own_m0) hown (mvT hZ (hw _ (List.mem_of_getElem? (i := 49) rfl))) (mvT hZ (hw _ (List.mem_of_getElem? (i := 50) rfl))) (mvT hZ (hw _ (List.mem_of_getElem? (i := 51) rfl))) (mvT hZ (hw _ (List.mem_of_getElem? (i := 52) rfl))) (by decide) (backOf (W := 0) (rm15 l Z a0 hw [] h134 n0 p1 A K EN OL134) hZ (hw _ (List.mem_of_getElem? (i := 52) rfl)) (hw _ (List.mem_of_getElem? (i := 51) rfl)) (by decide) (by decide)) (g := (mkF m 340 #[.val (.int p1), .val (.ref b1), .val (.ref b68), .val (.int (11 : Int32)), .val (.ref (A 11)), .val (.ref (A 19))] [(.ref (A 19))])) rfl (by rw [hml]; rfl) (argsL := [(.ref (A 19))]) (rest := []) (lenOf own_pd1 rfl) rfl (by show 2 * 0 + _ ≤ _; exact Nat.le_of_eq rfl) (hb hby at_340) (fun _ _ => ⟨rfl, e255, (by decide : 2 + 0 ≤ _), (by decide : 44 + 0 ≤ _)⟩)
    dsimp only [Pt.U, Pt.locs, Pt.cells, Pt.slots] at X257 l257 y257 z257 st257 hQ257
    replace X257 := own_sub X257 l257 y257 z257
    obtain ⟨rfl, N257q, e257⟩ := hQ257
    have N257 := Fr.app N255 N257q
    obtain ⟨fs, hr, hrun, hended, hW, hsame⟩ := X257.leave (v := some (.int (1 : Int32))) (fun h => by rw [Bd.returns] at h; cases h)
    refine ⟨_, _, pre135 _ ?_, hrun, hended, _, _, rfl, ?_, ⟨_, rfl⟩, hW, hsame.mono (by decide) (by decide)⟩
    · show Steps p.tables e below (T134.setTop (mkF m 315 #[.val (.int p1), .val (.ref b1), .val (.ref b68), .unset, .unset, .unset] [(.int ((p1 &&& (2147483647 : Int32)) % (22 : Int32)))])) _
      rw [hk136]
      show Steps p.tables e below (T134.setTop (mkF m 315 #[.val (.int p1), .val (.ref b1), .val (.ref b68), .unset, .unset, .unset] [(.int (11 : Int32))])) _
      refine XS.istoreN X134.here hx rfl (hb hby at_315) rfl (l' := #[.val (.int p1), .val (.ref b1), .val (.ref b68), .val (.int (11 : Int32)), .unset, .unset]) rfl ?_
      show Steps p.tables e below (T134.setTop (mkF m 316 #[.val (.int p1), .val (.ref b1), .val (.ref b68), .val (.int (11 : Int32)), .unset, .unset] [])) _
      refine XS.aloadN X134.here hx rfl (hb hby at_316) rfl rfl ?_
      show Steps p.tables e below (T134.setTop (mkF m 317 #[.val (.int p1), .val (.ref b1), .val (.ref b68), .val (.int (11 : Int32)), .unset, .unset] [(.ref b1)])) _
      refine XS.iloadN X134.here hx rfl (hb hby at_317) rfl ?_
      show Steps p.tables e below (T134.setTop (mkF m 318 #[.val (.int p1), .val (.ref b1), .val (.ref b68), .val (.int (11 : Int32)), .unset, .unset] [(.int (11 : Int32)), (.ref b1)])) _
      refine X134.aaload hx (j := (11 : Int32)) (v := (.ref (A 11))) (by rw [e134]; exact Ar249.1) (State.isArrayOf_alike hZ.alike Ar249.2.1) rfl Ar249.2.2 hin249 hat249 (g := (mkF m 318 #[.val (.int p1), .val (.ref b1), .val (.ref b68), .val (.int (11 : Int32)), .unset, .unset] [(.int (11 : Int32)), (.ref b1)])) rfl rfl (hb hby at_318) _ ?_
      show Steps p.tables e below (T134.setTop (mkF m 319 #[.val (.int p1), .val (.ref b1), .val (.ref b68), .val (.int (11 : Int32)), .unset, .unset] [(.ref (A 11))])) _
      refine XS.astore X134.here hx rfl (hb hby at_319) rfl rfl (l' := #[.val (.int p1), .val (.ref b1), .val (.ref b68), .val (.int (11 : Int32)), .val (.ref (A 11)), .unset]) rfl ?_
      show Steps p.tables e below (T134.setTop (mkF m 321 #[.val (.int p1), .val (.ref b1), .val (.ref b68), .val (.int (11 : Int32)), .val (.ref (A 11)), .unset] [])) _
      refine XS.aload X134.here hx rfl (hb hby at_321) rfl rfl ?_
      show Steps p.tables e below (T134.setTop (mkF m 323 #[.val (.int p1), .val (.ref b1), .val (.ref b68), .val (.int (11 : Int32)), .val (.ref (A 11)), .unset] [(.ref (A 11))])) _
      refine st255 _ ?_
      show Steps p.tables e below (T255.setTop (mkF m 326 #[.val (.int p1), .val (.ref b1), .val (.ref b68), .val (.int (11 : Int32)), .val (.ref (A 11)), .unset] [(.ref (A 19))])) _
      refine XS.astore X255.here hx rfl (hb hby at_326) rfl rfl (l' := #[.val (.int p1), .val (.ref b1), .val (.ref b68), .val (.int (11 : Int32)), .val (.ref (A 11)), .val (.ref (A 19))]) rfl ?_
      show Steps p.tables e below (T255.setTop (mkF m 328 #[.val (.int p1), .val (.ref b1), .val (.ref b68), .val (.int (11 : Int32)), .val (.ref (A 11)), .val (.ref (A 19))] [])) _
      refine XS.aload X255.here hx rfl (hb hby at_328) rfl rfl ?_
      show Steps p.tables e below (T255.setTop (mkF m 330 #[.val (.int p1), .val (.ref b1), .val (.ref b68), .val (.int (11 : Int32)), .val (.ref (A 11)), .val (.ref (A 19))] [(.ref (A 19))])) _
      refine XS.aloadN X255.here hx rfl (hb hby at_330) rfl rfl ?_
      show Steps p.tables e below (T255.setTop (mkF m 331 #[.val (.int p1), .val (.ref b1), .val (.ref b68), .val (.int (11 : Int32)), .val (.ref (A 11)), .val (.ref (A 19))] [(.ref b68), (.ref (A 19))])) _
      refine XS.iloadN X255.here hx rfl (hb hby at_331) rfl ?_
      show Steps p.tables e below (T255.setTop (mkF m 332 #[.val (.int p1), .val (.ref b1), .val (.ref b68), .val (.int (11 : Int32)), .val (.ref (A 11)), .val (.ref (A 19))] [(.int (11 : Int32)), (.ref b68), (.ref (A 19))])) _
      refine X255.aaload hx (j := (11 : Int32)) (v := (.ref (A 19))) (by rw [e255]; exact Ar256.1) (State.isArrayOf_alike hZ.alike Ar256.2.1) rfl Ar256.2.2 hin256 hat256 (g := (mkF m 332 #[.val (.int p1), .val (.ref b1), .val (.ref b68), .val (.int (11 : Int32)), .val (.ref (A 11)), .val (.ref (A 19))] [(.int (11 : Int32)), (.ref b68), (.ref (A 19))])) rfl rfl (hb hby at_332) _ ?_
      show Steps p.tables e below (T255.setTop (mkF m 333 #[.val (.int p1), .val (.ref b1), .val (.ref b68), .val (.int (11 : Int32)), .val (.ref (A 11)), .val (.ref (A 19))] [(.ref (A 19)), (.ref (A 19))])) _
      refine Jvm.RoadKit.acmp (g := (mkF m 333 #[.val (.int p1), .val (.ref b1), .val (.ref b68), .val (.int (11 : Int32)), .val (.ref (A 11)), .val (.ref (A 19))] [(.ref (A 19)), (.ref (A 19))])) X255 hx rfl rfl rfl (pc0 := 333) (pc' := 338) (same := true) rfl (hb hby at_333) rfl (decide_eq_true rfl) (by decide) (by decide) ?_
      show Steps p.tables e below (T255.setTop (mkF m 338 #[.val (.int p1), .val (.ref b1), .val (.ref b68), .val (.int (11 : Int32)), .val (.ref (A 11)), .val (.ref (A 19))] [])) _
      refine XS.aload X255.here hx rfl (hb hby at_338) rfl rfl ?_
      show Steps p.tables e below (T255.setTop (mkF m 340 #[.val (.int p1), .val (.ref b1), .val (.ref b68), .val (.int (11 : Int32)), .val (.ref (A 11)), .val (.ref (A 19))] [(.ref (A 19))])) _
      refine st257 _ ?_
      show Steps p.tables e below (T257.setTop (mkF m 343 #[.val (.int p1), .val (.ref b1), .val (.ref b68), .val (.int (11 : Int32)), .val (.ref (A 11)), .val (.ref (A 19))] [(.ref (A 19))])) _
      refine XS.aload X257.here hx rfl (hb hby at_343) rfl rfl ?_
      show Steps p.tables e below (T257.setTop (mkF m 345 #[.val (.int p1), .val (.ref b1), .val (.ref b68), .val (.int (11 : Int32)), .val (.ref (A 11)), .val (.ref (A 19))] [(.ref (A 19)), (.ref (A 19))])) _
      refine Jvm.RoadKit.acmp (g := (mkF m 345 #[.val (.int p1), .val (.ref b1), .val (.ref b68), .val (.int (11 : Int32)), .val (.ref (A 11)), .val (.ref (A 19))] [(.ref (A 19)), (.ref (A 19))])) X257 hx rfl rfl rfl (pc0 := 345) (pc' := 348) (same := true) rfl (hb hby at_345) rfl (decide_eq_true rfl) (by decide) (by decide) ?_
      show Steps p.tables e below (T257.setTop (mkF m 348 #[.val (.int p1), .val (.ref b1), .val (.ref b68), .val (.int (11 : Int32)), .val (.ref (A 11)), .val (.ref (A 19))] [])) _
      refine XS.iconst X257.here hx rfl (hb hby at_348) ?_
      show Steps p.tables e below (T257.setTop (mkF m 349 #[.val (.int p1), .val (.ref b1), .val (.ref b68), .val (.int (11 : Int32)), .val (.ref (A 11)), .val (.ref (A 19))] [(.int (1 : Int32))])) _
      refine XS.goto X257.here hx rfl (pc0 := 349) (pc' := 353) rfl (hb hby at_349) (by decide) (by decide) ?_
      show Steps p.tables e below (T257.setTop (mkF m 353 #[.val (.int p1), .val (.ref b1), .val (.ref b68), .val (.int (11 : Int32)), .val (.ref (A 11)), .val (.ref (A 19))] [(.int (1 : Int32))])) _
      exact retN X257 hx (t := .boolean) Bd.returns (by simp) (hb hby at_353) hr
    · show LQ n0 _ T257.heap _
      exact ⟨rfl, N257, trivial⟩
  | 12, _, hk136 =>
    have fx258 : Arv Z h134 b1 k1 (.object "com/example/dongl/dongl/core/ErrorCode") (22 : Int32) [(.ref (A 0)), (.ref (A 1)), (.ref (A 2)), (.ref (A 3)), (.ref (A 4)), (.ref (A 5)), (.ref (A 6)), (.ref (A 7)), (.ref (A 8)), (.ref (A 9)), (.ref (A 10)), (.ref (A 11)), (.ref (A 12)), (.ref (A 13)), (.ref (A 14)), (.ref (A 15)), (.ref (A 16)), (.ref (A 17)), (.ref (A 18)), (.ref (A 19)), (.ref (A 20)), (.ref (A 21))] .null := (((((((((((((((((((((((V67.ext E68).other W71 (Nat.ne_of_lt lt_b1_b68)).other W74 (Nat.ne_of_lt lt_b1_b68)).other W77 (Nat.ne_of_lt lt_b1_b68)).other W80 (Nat.ne_of_lt lt_b1_b68)).other W83 (Nat.ne_of_lt lt_b1_b68)).other W86 (Nat.ne_of_lt lt_b1_b68)).other W89 (Nat.ne_of_lt lt_b1_b68)).other W92 (Nat.ne_of_lt lt_b1_b68)).other W95 (Nat.ne_of_lt lt_b1_b68)).other W98 (Nat.ne_of_lt lt_b1_b68)).other W101 (Nat.ne_of_lt lt_b1_b68)).other W104 (Nat.ne_of_lt lt_b1_b68)).other W107 (Nat.ne_of_lt lt_b1_b68)).other W110 (Nat.ne_of_lt lt_b1_b68)).other W113 (Nat.ne_of_lt lt_b1_b68)).other W116 (Nat.ne_of_lt lt_b1_b68)).other W119 (Nat.ne_of_lt lt_b1_b68)).other W122 (Nat.ne_of_lt lt_b1_b68)).other W125 (Nat.ne_of_lt lt_b1_b68)).other W128 (Nat.ne_of_lt lt_b1_b68)).other W131 (Nat.ne_of_lt lt_b1_b68)).other W134 (Nat.ne_of_lt lt_b1_b68))
    obtain ⟨cl259, Ar259, q259, Sz259, Nn259, Hh259, Gg259⟩ := (id fx258)
    have hin259 : ¬ ((12 : Int32) < 0 ∨ cl259.slots.size ≤ ((12 : Int32)).toNatClampNeg) := inb_of Sz259 ⟨by decide, by decide⟩
    have hat259 : cl259.slots[((12 : Int32)).toNatClampNeg]? = some (.ref (A 12)) := Has.at Hh259 hin259 rfl
    obtain ⟨_, _, ⟨T265, L265, k265, n265⟩, -, X265, ⟨Lc265, hQ265, l265, y265, z265⟩, st265⟩ := Jvm.LawKit.callS X134 hx (y := own_m0) hown (mvT hZ (hw _ (List.mem_of_getElem? (i := 49) rfl))) (mvT hZ (hw _ (List.mem_of_getElem? (i := 50) rfl))) (mvT hZ (hw _ (List.mem_of_getElem? (i := 51) rfl))) (mvT hZ (hw _ (List.mem_of_getElem? (i := 52) rfl))) (by decide) (backOf (W := 0) (rm29 l Z a0 hw [] h134 n0 p1 A K EN OL134) hZ (hw _ (List.mem_of_getElem? (i := 52) rfl)) (hw _ (List.mem_of_getElem? (i := 51) rfl)) (by decide) (by decide)) (g := (mkF m 323 #[.val (.int p1), .val (.ref b1), .val (.ref b68), .val (.int (12 : Int32)), .val (.ref (A 12)), .unset] [(.ref (A 12))])) rfl (by rw [hml]; rfl) (argsL := [(.ref (A 12))]) (rest := []) (lenOf own_pd1 rfl) rfl (by show 2 * 0 + _ ≤ _; exact Nat.le_of_eq rfl) (hb hby at_323) (fun _ _ => ⟨rfl, e134, (by decide : 2 + 0 ≤ _), (by decide : 44 + 0 ≤ _)⟩)
    dsimp only [Pt.U, Pt.locs, Pt.cells, Pt.slots] at X265 l265 y265 z265 st265 hQ265
    replace X265 := own_sub X265 l265 y265 z265
    obtain ⟨rfl, N265q, e265⟩ := hQ265
    have N265 := Fr.app NF134 N265q
    obtain ⟨cl266, Ar266, q266, Sz266, Nn266, Hh266, Gg266⟩ := (id V134)
    have hin266 : ¬ ((12 : Int32) < 0 ∨ cl266.slots.size ≤ ((12 : Int32)).toNatClampNeg) := inb_of Sz266 ⟨by decide, by decide⟩
    have hat266 : cl266.slots[((12 : Int32)).toNatClampNeg]? = some (.ref (A 20)) := Has.at Hh266 hin266 rfl
    obtain ⟨_, _, ⟨T267, L267, k267, n267⟩, -, X267, ⟨Lc267, hQ267, l267, y267, z267⟩, st267⟩ := Jvm.LawKit.callS X265 hx (y := own_m0) hown (mvT hZ (hw _ (List.mem_of_getElem? (i := 49) rfl))) (mvT hZ (hw _ (List.mem_of_getElem? (i := 50) rfl))) (mvT hZ (hw _ (List.mem_of_getElem? (i := 51) rfl))) (mvT hZ (hw _ (List.mem_of_getElem? (i := 52) rfl))) (by decide) (backOf (W := 0) (rm9 l Z a0 hw [] h134 n0 p1 A K EN OL134) hZ (hw _ (List.mem_of_getElem? (i := 52) rfl)) (hw _ (List.mem_of_getElem? (i := 51) rfl)) (by decide) (by decide)) (g := (mkF m 340 #[.val (.int p1), .val (.ref b1), .val (.ref b68), .val (.int (12 : Int32)), .val (.ref (A 12)), .val (.ref (A 20))] [(.ref (A 20))])) rfl (by rw [hml]; rfl) (argsL := [(.ref (A 20))]) (rest := []) (lenOf own_pd1 rfl) rfl (by show 2 * 0 + _ ≤ _; exact Nat.le_of_eq rfl) (hb hby at_340) (fun _ _ => ⟨rfl, e265, (by decide : 2 + 0 ≤ _), (by decide : 44 + 0 ≤ _)⟩)
    dsimp only [Pt.U, Pt.locs, Pt.cells, Pt.slots] at X267 l267 y267 z267 st267 hQ267
    replace X267 := own_sub X267 l267 y267 z267
    obtain ⟨rfl, N267q, e267⟩ := hQ267
    have N267 := Fr.app N265 N267q
    obtain ⟨fs, hr, hrun, hended, hW, hsame⟩ := X267.leave (v := some (.int (1 : Int32))) (fun h => by rw [Bd.returns] at h; cases h)
    refine ⟨_, _, pre135 _ ?_, hrun, hended, _, _, rfl, ?_, ⟨_, rfl⟩, hW, hsame.mono (by decide) (by decide)⟩
    · show Steps p.tables e below (T134.setTop (mkF m 315 #[.val (.int p1), .val (.ref b1), .val (.ref b68), .unset, .unset, .unset] [(.int ((p1 &&& (2147483647 : Int32)) % (22 : Int32)))])) _
      rw [hk136]
      show Steps p.tables e below (T134.setTop (mkF m 315 #[.val (.int p1), .val (.ref b1), .val (.ref b68), .unset, .unset, .unset] [(.int (12 : Int32))])) _
      refine XS.istoreN X134.here hx rfl (hb hby at_315) rfl (l' := #[.val (.int p1), .val (.ref b1), .val (.ref b68), .val (.int (12 : Int32)), .unset, .unset]) rfl ?_
      show Steps p.tables e below (T134.setTop (mkF m 316 #[.val (.int p1), .val (.ref b1), .val (.ref b68), .val (.int (12 : Int32)), .unset, .unset] [])) _
      refine XS.aloadN X134.here hx rfl (hb hby at_316) rfl rfl ?_
      show Steps p.tables e below (T134.setTop (mkF m 317 #[.val (.int p1), .val (.ref b1), .val (.ref b68), .val (.int (12 : Int32)), .unset, .unset] [(.ref b1)])) _
      refine XS.iloadN X134.here hx rfl (hb hby at_317) rfl ?_
      show Steps p.tables e below (T134.setTop (mkF m 318 #[.val (.int p1), .val (.ref b1), .val (.ref b68), .val (.int (12 : Int32)), .unset, .unset] [(.int (12 : Int32)), (.ref b1)])) _
      refine X134.aaload hx (j := (12 : Int32)) (v := (.ref (A 12))) (by rw [e134]; exact Ar259.1) (State.isArrayOf_alike hZ.alike Ar259.2.1) rfl Ar259.2.2 hin259 hat259 (g := (mkF m 318 #[.val (.int p1), .val (.ref b1), .val (.ref b68), .val (.int (12 : Int32)), .unset, .unset] [(.int (12 : Int32)), (.ref b1)])) rfl rfl (hb hby at_318) _ ?_
      show Steps p.tables e below (T134.setTop (mkF m 319 #[.val (.int p1), .val (.ref b1), .val (.ref b68), .val (.int (12 : Int32)), .unset, .unset] [(.ref (A 12))])) _
      refine XS.astore X134.here hx rfl (hb hby at_319) rfl rfl (l' := #[.val (.int p1), .val (.ref b1), .val (.ref b68), .val (.int (12 : Int32)), .val (.ref (A 12)), .unset]) rfl ?_
      show Steps p.tables e below (T134.setTop (mkF m 321 #[.val (.int p1), .val (.ref b1), .val (.ref b68), .val (.int (12 : Int32)), .val (.ref (A 12)), .unset] [])) _
      refine XS.aload X134.here hx rfl (hb hby at_321) rfl rfl ?_
      show Steps p.tables e below (T134.setTop (mkF m 323 #[.val (.int p1), .val (.ref b1), .val (.ref b68), .val (.int (12 : Int32)), .val (.ref (A 12)), .unset] [(.ref (A 12))])) _
      refine st265 _ ?_
      show Steps p.tables e below (T265.setTop (mkF m 326 #[.val (.int p1), .val (.ref b1), .val (.ref b68), .val (.int (12 : Int32)), .val (.ref (A 12)), .unset] [(.ref (A 20))])) _
      refine XS.astore X265.here hx rfl (hb hby at_326) rfl rfl (l' := #[.val (.int p1), .val (.ref b1), .val (.ref b68), .val (.int (12 : Int32)), .val (.ref (A 12)), .val (.ref (A 20))]) rfl ?_
      show Steps p.tables e below (T265.setTop (mkF m 328 #[.val (.int p1), .val (.ref b1), .val (.ref b68), .val (.int (12 : Int32)), .val (.ref (A 12)), .val (.ref (A 20))] [])) _
      refine XS.aload X265.here hx rfl (hb hby at_328) rfl rfl ?_
      show Steps p.tables e below (T265.setTop (mkF m 330 #[.val (.int p1), .val (.ref b1), .val (.ref b68), .val (.int (12 : Int32)), .val (.ref (A 12)), .val (.ref (A 20))] [(.ref (A 20))])) _
      refine XS.aloadN X265.here hx rfl (hb hby at_330) rfl rfl ?_
      show Steps p.tables e below (T265.setTop (mkF m 331 #[.val (.int p1), .val (.ref b1), .val (.ref b68), .val (.int (12 : Int32)), .val (.ref (A 12)), .val (.ref (A 20))] [(.ref b68), (.ref (A 20))])) _
      refine XS.iloadN X265.here hx rfl (hb hby at_331) rfl ?_
      show Steps p.tables e below (T265.setTop (mkF m 332 #[.val (.int p1), .val (.ref b1), .val (.ref b68), .val (.int (12 : Int32)), .val (.ref (A 12)), .val (.ref (A 20))] [(.int (12 : Int32)), (.ref b68), (.ref (A 20))])) _
      refine X265.aaload hx (j := (12 : Int32)) (v := (.ref (A 20))) (by rw [e265]; exact Ar266.1) (State.isArrayOf_alike hZ.alike Ar266.2.1) rfl Ar266.2.2 hin266 hat266 (g := (mkF m 332 #[.val (.int p1), .val (.ref b1), .val (.ref b68), .val (.int (12 : Int32)), .val (.ref (A 12)), .val (.ref (A 20))] [(.int (12 : Int32)), (.ref b68), (.ref (A 20))])) rfl rfl (hb hby at_332) _ ?_
      show Steps p.tables e below (T265.setTop (mkF m 333 #[.val (.int p1), .val (.ref b1), .val (.ref b68), .val (.int (12 : Int32)), .val (.ref (A 12)), .val (.ref (A 20))] [(.ref (A 20)), (.ref (A 20))])) _
      refine Jvm.RoadKit.acmp (g := (mkF m 333 #[.val (.int p1), .val (.ref b1), .val (.ref b68), .val (.int (12 : Int32)), .val (.ref (A 12)), .val (.ref (A 20))] [(.ref (A 20)), (.ref (A 20))])) X265 hx rfl rfl rfl (pc0 := 333) (pc' := 338) (same := true) rfl (hb hby at_333) rfl (decide_eq_true rfl) (by decide) (by decide) ?_
      show Steps p.tables e below (T265.setTop (mkF m 338 #[.val (.int p1), .val (.ref b1), .val (.ref b68), .val (.int (12 : Int32)), .val (.ref (A 12)), .val (.ref (A 20))] [])) _
      refine XS.aload X265.here hx rfl (hb hby at_338) rfl rfl ?_
      show Steps p.tables e below (T265.setTop (mkF m 340 #[.val (.int p1), .val (.ref b1), .val (.ref b68), .val (.int (12 : Int32)), .val (.ref (A 12)), .val (.ref (A 20))] [(.ref (A 20))])) _
      refine st267 _ ?_
      show Steps p.tables e below (T267.setTop (mkF m 343 #[.val (.int p1), .val (.ref b1), .val (.ref b68), .val (.int (12 : Int32)), .val (.ref (A 12)), .val (.ref (A 20))] [(.ref (A 20))])) _
      refine XS.aload X267.here hx rfl (hb hby at_343) rfl rfl ?_
      show Steps p.tables e below (T267.setTop (mkF m 345 #[.val (.int p1), .val (.ref b1), .val (.ref b68), .val (.int (12 : Int32)), .val (.ref (A 12)), .val (.ref (A 20))] [(.ref (A 20)), (.ref (A 20))])) _
      refine Jvm.RoadKit.acmp (g := (mkF m 345 #[.val (.int p1), .val (.ref b1), .val (.ref b68), .val (.int (12 : Int32)), .val (.ref (A 12)), .val (.ref (A 20))] [(.ref (A 20)), (.ref (A 20))])) X267 hx rfl rfl rfl (pc0 := 345) (pc' := 348) (same := true) rfl (hb hby at_345) rfl (decide_eq_true rfl) (by decide) (by decide) ?_
      show Steps p.tables e below (T267.setTop (mkF m 348 #[.val (.int p1), .val (.ref b1), .val (.ref b68), .val (.int (12 : Int32)), .val (.ref (A 12)), .val (.ref (A 20))] [])) _
      refine XS.iconst X267.here hx rfl (hb hby at_348) ?_
      show Steps p.tables e below (T267.setTop (mkF m 349 #[.val (.int p1), .val (.ref b1), .val (.ref b68), .val (.int (12 : Int32)), .val (.ref (A 12)), .val (.ref (A 20))] [(.int (1 : Int32))])) _
      refine XS.goto X267.here hx rfl (pc0 := 349) (pc' := 353) rfl (hb hby at_349) (by decide) (by decide) ?_
      show Steps p.tables e below (T267.setTop (mkF m 353 #[.val (.int p1), .val (.ref b1), .val (.ref b68), .val (.int (12 : Int32)), .val (.ref (A 12)), .val (.ref (A 20))] [(.int (1 : Int32))])) _
      exact retN X267 hx (t := .boolean) Bd.returns (by simp) (hb hby at_353) hr
    · show LQ n0 _ T267.heap _
      exact ⟨rfl, N267, trivial⟩
  | 13, _, hk136 =>
    have fx268 : Arv Z h134 b1 k1 (.object "com/example/dongl/dongl/core/ErrorCode") (22 : Int32) [(.ref (A 0)), (.ref (A 1)), (.ref (A 2)), (.ref (A 3)), (.ref (A 4)), (.ref (A 5)), (.ref (A 6)), (.ref (A 7)), (.ref (A 8)), (.ref (A 9)), (.ref (A 10)), (.ref (A 11)), (.ref (A 12)), (.ref (A 13)), (.ref (A 14)), (.ref (A 15)), (.ref (A 16)), (.ref (A 17)), (.ref (A 18)), (.ref (A 19)), (.ref (A 20)), (.ref (A 21))] .null := (((((((((((((((((((((((V67.ext E68).other W71 (Nat.ne_of_lt lt_b1_b68)).other W74 (Nat.ne_of_lt lt_b1_b68)).other W77 (Nat.ne_of_lt lt_b1_b68)).other W80 (Nat.ne_of_lt lt_b1_b68)).other W83 (Nat.ne_of_lt lt_b1_b68)).other W86 (Nat.ne_of_lt lt_b1_b68)).other W89 (Nat.ne_of_lt lt_b1_b68)).other W92 (Nat.ne_of_lt lt_b1_b68)).other W95 (Nat.ne_of_lt lt_b1_b68)).other W98 (Nat.ne_of_lt lt_b1_b68)).other W101 (Nat.ne_of_lt lt_b1_b68)).other W104 (Nat.ne_of_lt lt_b1_b68)).other W107 (Nat.ne_of_lt lt_b1_b68)).other W110 (Nat.ne_of_lt lt_b1_b68)).other W113 (Nat.ne_of_lt lt_b1_b68)).other W116 (Nat.ne_of_lt lt_b1_b68)).other W119 (Nat.ne_of_lt lt_b1_b68)).other W122 (Nat.ne_of_lt lt_b1_b68)).other W125 (Nat.ne_of_lt lt_b1_b68)).other W128 (Nat.ne_of_lt lt_b1_b68)).other W131 (Nat.ne_of_lt lt_b1_b68)).other W134 (Nat.ne_of_lt lt_b1_b68))
    obtain ⟨cl269, Ar269, q269, Sz269, Nn269, Hh269, Gg269⟩ := (id fx268)
    have hin269 : ¬ ((13 : Int32) < 0 ∨ cl269.slots.size ≤ ((13 : Int32)).toNatClampNeg) := inb_of Sz269 ⟨by decide, by decide⟩
    have hat269 : cl269.slots[((13 : Int32)).toNatClampNeg]? = some (.ref (A 13)) := Has.at Hh269 hin269 rfl
    obtain ⟨_, _, ⟨T275, L275, k275, n275⟩, -, X275, ⟨Lc275, hQ275, l275, y275, z275⟩, st275⟩ := Jvm.LawKit.callS X134 hx (y := own_m0) hown (mvT hZ (hw _ (List.mem_of_getElem? (i := 49) rfl))) (mvT hZ (hw _ (List.mem_of_getElem? (i := 50) rfl))) (mvT hZ (hw _ (List.mem_of_getElem? (i := 51) rfl))) (mvT hZ (hw _ (List.mem_of_getElem? (i := 52) rfl))) (by decide) (backOf (W := 0) (rm31 l Z a0 hw [] h134 n0 p1 A K EN OL134) hZ (hw _ (List.mem_of_getElem? (i := 52) rfl)) (hw _ (List.mem_of_getElem? (i := 51) rfl)) (by decide) (by decide)) (g := (mkF m 323 #[.val (.int p1), .val (.ref b1), .val (.ref b68), .val (.int (13 : Int32)), .val (.ref (A 13)), .unset] [(.ref (A 13))])) rfl (by rw [hml]; rfl) (argsL := [(.ref (A 13))]) (rest := []) (lenOf own_pd1 rfl) rfl (by show 2 * 0 + _ ≤ _; exact Nat.le_of_eq rfl) (hb hby at_323) (fun _ _ => ⟨rfl, e134, (by decide : 2 + 0 ≤ _), (by decide : 44 + 0 ≤ _)⟩)
    dsimp only [Pt.U, Pt.locs, Pt.cells, Pt.slots] at X275 l275 y275 z275 st275 hQ275
    replace X275 := own_sub X275 l275 y275 z275
    obtain ⟨rfl, N275q, e275⟩ := hQ275
    have N275 := Fr.app NF134 N275q
    obtain ⟨cl276, Ar276, q276, Sz276, Nn276, Hh276, Gg276⟩ := (id V134)
    have hin276 : ¬ ((13 : Int32) < 0 ∨ cl276.slots.size ≤ ((13 : Int32)).toNatClampNeg) := inb_of Sz276 ⟨by decide, by decide⟩
    have hat276 : cl276.slots[((13 : Int32)).toNatClampNeg]? = some (.ref (A 19)) := Has.at Hh276 hin276 rfl
    obtain ⟨_, _, ⟨T277, L277, k277, n277⟩, -, X277, ⟨Lc277, hQ277, l277, y277, z277⟩, st277⟩ := Jvm.LawKit.callS X275 hx (y := own_m0) hown (mvT hZ (hw _ (List.mem_of_getElem? (i := 49) rfl))) (mvT hZ (hw _ (List.mem_of_getElem? (i := 50) rfl))) (mvT hZ (hw _ (List.mem_of_getElem? (i := 51) rfl))) (mvT hZ (hw _ (List.mem_of_getElem? (i := 52) rfl))) (by decide) (backOf (W := 0) (rm15 l Z a0 hw [] h134 n0 p1 A K EN OL134) hZ (hw _ (List.mem_of_getElem? (i := 52) rfl)) (hw _ (List.mem_of_getElem? (i := 51) rfl)) (by decide) (by decide)) (g := (mkF m 340 #[.val (.int p1), .val (.ref b1), .val (.ref b68), .val (.int (13 : Int32)), .val (.ref (A 13)), .val (.ref (A 19))] [(.ref (A 19))])) rfl (by rw [hml]; rfl) (argsL := [(.ref (A 19))]) (rest := []) (lenOf own_pd1 rfl) rfl (by show 2 * 0 + _ ≤ _; exact Nat.le_of_eq rfl) (hb hby at_340) (fun _ _ => ⟨rfl, e275, (by decide : 2 + 0 ≤ _), (by decide : 44 + 0 ≤ _)⟩)
    dsimp only [Pt.U, Pt.locs, Pt.cells, Pt.slots] at X277 l277 y277 z277 st277 hQ277
    replace X277 := own_sub X277 l277 y277 z277
    obtain ⟨rfl, N277q, e277⟩ := hQ277
    have N277 := Fr.app N275 N277q
    obtain ⟨fs, hr, hrun, hended, hW, hsame⟩ := X277.leave (v := some (.int (1 : Int32))) (fun h => by rw [Bd.returns] at h; cases h)
    refine ⟨_, _, pre135 _ ?_, hrun, hended, _, _, rfl, ?_, ⟨_, rfl⟩, hW, hsame.mono (by decide) (by decide)⟩
    · show Steps p.tables e below (T134.setTop (mkF m 315 #[.val (.int p1), .val (.ref b1), .val (.ref b68), .unset, .unset, .unset] [(.int ((p1 &&& (2147483647 : Int32)) % (22 : Int32)))])) _
      rw [hk136]
      show Steps p.tables e below (T134.setTop (mkF m 315 #[.val (.int p1), .val (.ref b1), .val (.ref b68), .unset, .unset, .unset] [(.int (13 : Int32))])) _
      refine XS.istoreN X134.here hx rfl (hb hby at_315) rfl (l' := #[.val (.int p1), .val (.ref b1), .val (.ref b68), .val (.int (13 : Int32)), .unset, .unset]) rfl ?_
      show Steps p.tables e below (T134.setTop (mkF m 316 #[.val (.int p1), .val (.ref b1), .val (.ref b68), .val (.int (13 : Int32)), .unset, .unset] [])) _
      refine XS.aloadN X134.here hx rfl (hb hby at_316) rfl rfl ?_
      show Steps p.tables e below (T134.setTop (mkF m 317 #[.val (.int p1), .val (.ref b1), .val (.ref b68), .val (.int (13 : Int32)), .unset, .unset] [(.ref b1)])) _
      refine XS.iloadN X134.here hx rfl (hb hby at_317) rfl ?_
      show Steps p.tables e below (T134.setTop (mkF m 318 #[.val (.int p1), .val (.ref b1), .val (.ref b68), .val (.int (13 : Int32)), .unset, .unset] [(.int (13 : Int32)), (.ref b1)])) _
      refine X134.aaload hx (j := (13 : Int32)) (v := (.ref (A 13))) (by rw [e134]; exact Ar269.1) (State.isArrayOf_alike hZ.alike Ar269.2.1) rfl Ar269.2.2 hin269 hat269 (g := (mkF m 318 #[.val (.int p1), .val (.ref b1), .val (.ref b68), .val (.int (13 : Int32)), .unset, .unset] [(.int (13 : Int32)), (.ref b1)])) rfl rfl (hb hby at_318) _ ?_
      show Steps p.tables e below (T134.setTop (mkF m 319 #[.val (.int p1), .val (.ref b1), .val (.ref b68), .val (.int (13 : Int32)), .unset, .unset] [(.ref (A 13))])) _
      refine XS.astore X134.here hx rfl (hb hby at_319) rfl rfl (l' := #[.val (.int p1), .val (.ref b1), .val (.ref b68), .val (.int (13 : Int32)), .val (.ref (A 13)), .unset]) rfl ?_
      show Steps p.tables e below (T134.setTop (mkF m 321 #[.val (.int p1), .val (.ref b1), .val (.ref b68), .val (.int (13 : Int32)), .val (.ref (A 13)), .unset] [])) _
      refine XS.aload X134.here hx rfl (hb hby at_321) rfl rfl ?_
      show Steps p.tables e below (T134.setTop (mkF m 323 #[.val (.int p1), .val (.ref b1), .val (.ref b68), .val (.int (13 : Int32)), .val (.ref (A 13)), .unset] [(.ref (A 13))])) _
      refine st275 _ ?_
      show Steps p.tables e below (T275.setTop (mkF m 326 #[.val (.int p1), .val (.ref b1), .val (.ref b68), .val (.int (13 : Int32)), .val (.ref (A 13)), .unset] [(.ref (A 19))])) _
      refine XS.astore X275.here hx rfl (hb hby at_326) rfl rfl (l' := #[.val (.int p1), .val (.ref b1), .val (.ref b68), .val (.int (13 : Int32)), .val (.ref (A 13)), .val (.ref (A 19))]) rfl ?_
      show Steps p.tables e below (T275.setTop (mkF m 328 #[.val (.int p1), .val (.ref b1), .val (.ref b68), .val (.int (13 : Int32)), .val (.ref (A 13)), .val (.ref (A 19))] [])) _
      refine XS.aload X275.here hx rfl (hb hby at_328) rfl rfl ?_
      show Steps p.tables e below (T275.setTop (mkF m 330 #[.val (.int p1), .val (.ref b1), .val (.ref b68), .val (.int (13 : Int32)), .val (.ref (A 13)), .val (.ref (A 19))] [(.ref (A 19))])) _
      refine XS.aloadN X275.here hx rfl (hb hby at_330) rfl rfl ?_
      show Steps p.tables e below (T275.setTop (mkF m 331 #[.val (.int p1), .val (.ref b1), .val (.ref b68), .val (.int (13 : Int32)), .val (.ref (A 13)), .val (.ref (A 19))] [(.ref b68), (.ref (A 19))])) _
      refine XS.iloadN X275.here hx rfl (hb hby at_331) rfl ?_
      show Steps p.tables e below (T275.setTop (mkF m 332 #[.val (.int p1), .val (.ref b1), .val (.ref b68), .val (.int (13 : Int32)), .val (.ref (A 13)), .val (.ref (A 19))] [(.int (13 : Int32)), (.ref b68), (.ref (A 19))])) _
      refine X275.aaload hx (j := (13 : Int32)) (v := (.ref (A 19))) (by rw [e275]; exact Ar276.1) (State.isArrayOf_alike hZ.alike Ar276.2.1) rfl Ar276.2.2 hin276 hat276 (g := (mkF m 332 #[.val (.int p1), .val (.ref b1), .val (.ref b68), .val (.int (13 : Int32)), .val (.ref (A 13)), .val (.ref (A 19))] [(.int (13 : Int32)), (.ref b68), (.ref (A 19))])) rfl rfl (hb hby at_332) _ ?_
      show Steps p.tables e below (T275.setTop (mkF m 333 #[.val (.int p1), .val (.ref b1), .val (.ref b68), .val (.int (13 : Int32)), .val (.ref (A 13)), .val (.ref (A 19))] [(.ref (A 19)), (.ref (A 19))])) _
      refine Jvm.RoadKit.acmp (g := (mkF m 333 #[.val (.int p1), .val (.ref b1), .val (.ref b68), .val (.int (13 : Int32)), .val (.ref (A 13)), .val (.ref (A 19))] [(.ref (A 19)), (.ref (A 19))])) X275 hx rfl rfl rfl (pc0 := 333) (pc' := 338) (same := true) rfl (hb hby at_333) rfl (decide_eq_true rfl) (by decide) (by decide) ?_
      show Steps p.tables e below (T275.setTop (mkF m 338 #[.val (.int p1), .val (.ref b1), .val (.ref b68), .val (.int (13 : Int32)), .val (.ref (A 13)), .val (.ref (A 19))] [])) _
      refine XS.aload X275.here hx rfl (hb hby at_338) rfl rfl ?_
      show Steps p.tables e below (T275.setTop (mkF m 340 #[.val (.int p1), .val (.ref b1), .val (.ref b68), .val (.int (13 : Int32)), .val (.ref (A 13)), .val (.ref (A 19))] [(.ref (A 19))])) _
      refine st277 _ ?_
      show Steps p.tables e below (T277.setTop (mkF m 343 #[.val (.int p1), .val (.ref b1), .val (.ref b68), .val (.int (13 : Int32)), .val (.ref (A 13)), .val (.ref (A 19))] [(.ref (A 19))])) _
      refine XS.aload X277.here hx rfl (hb hby at_343) rfl rfl ?_
      show Steps p.tables e below (T277.setTop (mkF m 345 #[.val (.int p1), .val (.ref b1), .val (.ref b68), .val (.int (13 : Int32)), .val (.ref (A 13)), .val (.ref (A 19))] [(.ref (A 19)), (.ref (A 19))])) _
      refine Jvm.RoadKit.acmp (g := (mkF m 345 #[.val (.int p1), .val (.ref b1), .val (.ref b68), .val (.int (13 : Int32)), .val (.ref (A 13)), .val (.ref (A 19))] [(.ref (A 19)), (.ref (A 19))])) X277 hx rfl rfl rfl (pc0 := 345) (pc' := 348) (same := true) rfl (hb hby at_345) rfl (decide_eq_true rfl) (by decide) (by decide) ?_
      show Steps p.tables e below (T277.setTop (mkF m 348 #[.val (.int p1), .val (.ref b1), .val (.ref b68), .val (.int (13 : Int32)), .val (.ref (A 13)), .val (.ref (A 19))] [])) _
      refine XS.iconst X277.here hx rfl (hb hby at_348) ?_
      show Steps p.tables e below (T277.setTop (mkF m 349 #[.val (.int p1), .val (.ref b1), .val (.ref b68), .val (.int (13 : Int32)), .val (.ref (A 13)), .val (.ref (A 19))] [(.int (1 : Int32))])) _
      refine XS.goto X277.here hx rfl (pc0 := 349) (pc' := 353) rfl (hb hby at_349) (by decide) (by decide) ?_
      show Steps p.tables e below (T277.setTop (mkF m 353 #[.val (.int p1), .val (.ref b1), .val (.ref b68), .val (.int (13 : Int32)), .val (.ref (A 13)), .val (.ref (A 19))] [(.int (1 : Int32))])) _
      exact retN X277 hx (t := .boolean) Bd.returns (by simp) (hb hby at_353) hr
    · show LQ n0 _ T277.heap _
      exact ⟨rfl, N277, trivial⟩
  | 14, _, hk136 =>
    have fx278 : Arv Z h134 b1 k1 (.object "com/example/dongl/dongl/core/ErrorCode") (22 : Int32) [(.ref (A 0)), (.ref (A 1)), (.ref (A 2)), (.ref (A 3)), (.ref (A 4)), (.ref (A 5)), (.ref (A 6)), (.ref (A 7)), (.ref (A 8)), (.ref (A 9)), (.ref (A 10)), (.ref (A 11)), (.ref (A 12)), (.ref (A 13)), (.ref (A 14)), (.ref (A 15)), (.ref (A 16)), (.ref (A 17)), (.ref (A 18)), (.ref (A 19)), (.ref (A 20)), (.ref (A 21))] .null := (((((((((((((((((((((((V67.ext E68).other W71 (Nat.ne_of_lt lt_b1_b68)).other W74 (Nat.ne_of_lt lt_b1_b68)).other W77 (Nat.ne_of_lt lt_b1_b68)).other W80 (Nat.ne_of_lt lt_b1_b68)).other W83 (Nat.ne_of_lt lt_b1_b68)).other W86 (Nat.ne_of_lt lt_b1_b68)).other W89 (Nat.ne_of_lt lt_b1_b68)).other W92 (Nat.ne_of_lt lt_b1_b68)).other W95 (Nat.ne_of_lt lt_b1_b68)).other W98 (Nat.ne_of_lt lt_b1_b68)).other W101 (Nat.ne_of_lt lt_b1_b68)).other W104 (Nat.ne_of_lt lt_b1_b68)).other W107 (Nat.ne_of_lt lt_b1_b68)).other W110 (Nat.ne_of_lt lt_b1_b68)).other W113 (Nat.ne_of_lt lt_b1_b68)).other W116 (Nat.ne_of_lt lt_b1_b68)).other W119 (Nat.ne_of_lt lt_b1_b68)).other W122 (Nat.ne_of_lt lt_b1_b68)).other W125 (Nat.ne_of_lt lt_b1_b68)).other W128 (Nat.ne_of_lt lt_b1_b68)).other W131 (Nat.ne_of_lt lt_b1_b68)).other W134 (Nat.ne_of_lt lt_b1_b68))
    obtain ⟨cl279, Ar279, q279, Sz279, Nn279, Hh279, Gg279⟩ := (id fx278)
    have hin279 : ¬ ((14 : Int32) < 0 ∨ cl279.slots.size ≤ ((14 : Int32)).toNatClampNeg) := inb_of Sz279 ⟨by decide, by decide⟩
    have hat279 : cl279.slots[((14 : Int32)).toNatClampNeg]? = some (.ref (A 14)) := Has.at Hh279 hin279 rfl
    obtain ⟨_, _, ⟨T285, L285, k285, n285⟩, -, X285, ⟨Lc285, hQ285, l285, y285, z285⟩, st285⟩ := Jvm.LawKit.callS X134 hx (y := own_m0) hown (mvT hZ (hw _ (List.mem_of_getElem? (i := 49) rfl))) (mvT hZ (hw _ (List.mem_of_getElem? (i := 50) rfl))) (mvT hZ (hw _ (List.mem_of_getElem? (i := 51) rfl))) (mvT hZ (hw _ (List.mem_of_getElem? (i := 52) rfl))) (by decide) (backOf (W := 0) (rm33 l Z a0 hw [] h134 n0 p1 A K EN OL134) hZ (hw _ (List.mem_of_getElem? (i := 52) rfl)) (hw _ (List.mem_of_getElem? (i := 51) rfl)) (by decide) (by decide)) (g := (mkF m 323 #[.val (.int p1), .val (.ref b1), .val (.ref b68), .val (.int (14 : Int32)), .val (.ref (A 14)), .unset] [(.ref (A 14))])) rfl (by rw [hml]; rfl) (argsL := [(.ref (A 14))]) (rest := []) (lenOf own_pd1 rfl) rfl (by show 2 * 0 + _ ≤ _; exact Nat.le_of_eq rfl) (hb hby at_323) (fun _ _ => ⟨rfl, e134, (by decide : 2 + 0 ≤ _), (by decide : 44 + 0 ≤ _)⟩)
    dsimp only [Pt.U, Pt.locs, Pt.cells, Pt.slots] at X285 l285 y285 z285 st285 hQ285
    replace X285 := own_sub X285 l285 y285 z285
    obtain ⟨rfl, N285q, e285⟩ := hQ285
    have N285 := Fr.app NF134 N285q
    obtain ⟨cl286, Ar286, q286, Sz286, Nn286, Hh286, Gg286⟩ := (id V134)
    have hin286 : ¬ ((14 : Int32) < 0 ∨ cl286.slots.size ≤ ((14 : Int32)).toNatClampNeg) := inb_of Sz286 ⟨by decide, by decide⟩
    have hat286 : cl286.slots[((14 : Int32)).toNatClampNeg]? = some (.ref (A 19)) := Has.at Hh286 hin286 rfl
    obtain ⟨_, _, ⟨T287, L287, k287, n287⟩, -, X287, ⟨Lc287, hQ287, l287, y287, z287⟩, st287⟩ := Jvm.LawKit.callS X285 hx (y := own_m0) hown (mvT hZ (hw _ (List.mem_of_getElem? (i := 49) rfl))) (mvT hZ (hw _ (List.mem_of_getElem? (i := 50) rfl))) (mvT hZ (hw _ (List.mem_of_getElem? (i := 51) rfl))) (mvT hZ (hw _ (List.mem_of_getElem? (i := 52) rfl))) (by decide) (backOf (W := 0) (rm15 l Z a0 hw [] h134 n0 p1 A K EN OL134) hZ (hw _ (List.mem_of_getElem? (i := 52) rfl)) (hw _ (List.mem_of_getElem? (i := 51) rfl)) (by decide) (by decide)) (g := (mkF m 340 #[.val (.int p1), .val (.ref b1), .val (.ref b68), .val (.int (14 : Int32)), .val (.ref (A 14)), .val (.ref (A 19))] [(.ref (A 19))])) rfl (by rw [hml]; rfl) (argsL := [(.ref (A 19))]) (rest := []) (lenOf own_pd1 rfl) rfl (by show 2 * 0 + _ ≤ _; exact Nat.le_of_eq rfl) (hb hby at_340) (fun _ _ => ⟨rfl, e285, (by decide : 2 + 0 ≤ _), (by decide : 44 + 0 ≤ _)⟩)
    dsimp only [Pt.U, Pt.locs, Pt.cells, Pt.slots] at X287 l287 y287 z287 st287 hQ287
    replace X287 := own_sub X287 l287 y287 z287
    obtain ⟨rfl, N287q, e287⟩ := hQ287
    have N287 := Fr.app N285 N287q
    obtain ⟨fs, hr, hrun, hended, hW, hsame⟩ := X287.leave (v := some (.int (1 : Int32))) (fun h => by rw [Bd.returns] at h; cases h)
    refine ⟨_, _, pre135 _ ?_, hrun, hended, _, _, rfl, ?_, ⟨_, rfl⟩, hW, hsame.mono (by decide) (by decide)⟩
    · show Steps p.tables e below (T134.setTop (mkF m 315 #[.val (.int p1), .val (.ref b1), .val (.ref b68), .unset, .unset, .unset] [(.int ((p1 &&& (2147483647 : Int32)) % (22 : Int32)))])) _
      rw [hk136]
      show Steps p.tables e below (T134.setTop (mkF m 315 #[.val (.int p1), .val (.ref b1), .val (.ref b68), .unset, .unset, .unset] [(.int (14 : Int32))])) _
      refine XS.istoreN X134.here hx rfl (hb hby at_315) rfl (l' := #[.val (.int p1), .val (.ref b1), .val (.ref b68), .val (.int (14 : Int32)), .unset, .unset]) rfl ?_
      show Steps p.tables e below (T134.setTop (mkF m 316 #[.val (.int p1), .val (.ref b1), .val (.ref b68), .val (.int (14 : Int32)), .unset, .unset] [])) _
      refine XS.aloadN X134.here hx rfl (hb hby at_316) rfl rfl ?_
      show Steps p.tables e below (T134.setTop (mkF m 317 #[.val (.int p1), .val (.ref b1), .val (.ref b68), .val (.int (14 : Int32)), .unset, .unset] [(.ref b1)])) _
      refine XS.iloadN X134.here hx rfl (hb hby at_317) rfl ?_
      show Steps p.tables e below (T134.setTop (mkF m 318 #[.val (.int p1), .val (.ref b1), .val (.ref b68), .val (.int (14 : Int32)), .unset, .unset] [(.int (14 : Int32)), (.ref b1)])) _
      refine X134.aaload hx (j := (14 : Int32)) (v := (.ref (A 14))) (by rw [e134]; exact Ar279.1) (State.isArrayOf_alike hZ.alike Ar279.2.1) rfl Ar279.2.2 hin279 hat279 (g := (mkF m 318 #[.val (.int p1), .val (.ref b1), .val (.ref b68), .val (.int (14 : Int32)), .unset, .unset] [(.int (14 : Int32)), (.ref b1)])) rfl rfl (hb hby at_318) _ ?_
      show Steps p.tables e below (T134.setTop (mkF m 319 #[.val (.int p1), .val (.ref b1), .val (.ref b68), .val (.int (14 : Int32)), .unset, .unset] [(.ref (A 14))])) _
      refine XS.astore X134.here hx rfl (hb hby at_319) rfl rfl (l' := #[.val (.int p1), .val (.ref b1), .val (.ref b68), .val (.int (14 : Int32)), .val (.ref (A 14)), .unset]) rfl ?_
      show Steps p.tables e below (T134.setTop (mkF m 321 #[.val (.int p1), .val (.ref b1), .val (.ref b68), .val (.int (14 : Int32)), .val (.ref (A 14)), .unset] [])) _
      refine XS.aload X134.here hx rfl (hb hby at_321) rfl rfl ?_
      show Steps p.tables e below (T134.setTop (mkF m 323 #[.val (.int p1), .val (.ref b1), .val (.ref b68), .val (.int (14 : Int32)), .val (.ref (A 14)), .unset] [(.ref (A 14))])) _
      refine st285 _ ?_
      show Steps p.tables e below (T285.setTop (mkF m 326 #[.val (.int p1), .val (.ref b1), .val (.ref b68), .val (.int (14 : Int32)), .val (.ref (A 14)), .unset] [(.ref (A 19))])) _
      refine XS.astore X285.here hx rfl (hb hby at_326) rfl rfl (l' := #[.val (.int p1), .val (.ref b1), .val (.ref b68), .val (.int (14 : Int32)), .val (.ref (A 14)), .val (.ref (A 19))]) rfl ?_
      show Steps p.tables e below (T285.setTop (mkF m 328 #[.val (.int p1), .val (.ref b1), .val (.ref b68), .val (.int (14 : Int32)), .val (.ref (A 14)), .val (.ref (A 19))] [])) _
      refine XS.aload X285.here hx rfl (hb hby at_328) rfl rfl ?_
      show Steps p.tables e below (T285.setTop (mkF m 330 #[.val (.int p1), .val (.ref b1), .val (.ref b68), .val (.int (14 : Int32)), .val (.ref (A 14)), .val (.ref (A 19))] [(.ref (A 19))])) _
      refine XS.aloadN X285.here hx rfl (hb hby at_330) rfl rfl ?_
      show Steps p.tables e below (T285.setTop (mkF m 331 #[.val (.int p1), .val (.ref b1), .val (.ref b68), .val (.int (14 : Int32)), .val (.ref (A 14)), .val (.ref (A 19))] [(.ref b68), (.ref (A 19))])) _
      refine XS.iloadN X285.here hx rfl (hb hby at_331) rfl ?_
      show Steps p.tables e below (T285.setTop (mkF m 332 #[.val (.int p1), .val (.ref b1), .val (.ref b68), .val (.int (14 : Int32)), .val (.ref (A 14)), .val (.ref (A 19))] [(.int (14 : Int32)), (.ref b68), (.ref (A 19))])) _
      refine X285.aaload hx (j := (14 : Int32)) (v := (.ref (A 19))) (by rw [e285]; exact Ar286.1) (State.isArrayOf_alike hZ.alike Ar286.2.1) rfl Ar286.2.2 hin286 hat286 (g := (mkF m 332 #[.val (.int p1), .val (.ref b1), .val (.ref b68), .val (.int (14 : Int32)), .val (.ref (A 14)), .val (.ref (A 19))] [(.int (14 : Int32)), (.ref b68), (.ref (A 19))])) rfl rfl (hb hby at_332) _ ?_
      show Steps p.tables e below (T285.setTop (mkF m 333 #[.val (.int p1), .val (.ref b1), .val (.ref b68), .val (.int (14 : Int32)), .val (.ref (A 14)), .val (.ref (A 19))] [(.ref (A 19)), (.ref (A 19))])) _
      refine Jvm.RoadKit.acmp (g := (mkF m 333 #[.val (.int p1), .val (.ref b1), .val (.ref b68), .val (.int (14 : Int32)), .val (.ref (A 14)), .val (.ref (A 19))] [(.ref (A 19)), (.ref (A 19))])) X285 hx rfl rfl rfl (pc0 := 333) (pc' := 338) (same := true) rfl (hb hby at_333) rfl (decide_eq_true rfl) (by decide) (by decide) ?_
      show Steps p.tables e below (T285.setTop (mkF m 338 #[.val (.int p1), .val (.ref b1), .val (.ref b68), .val (.int (14 : Int32)), .val (.ref (A 14)), .val (.ref (A 19))] [])) _
      refine XS.aload X285.here hx rfl (hb hby at_338) rfl rfl ?_
      show Steps p.tables e below (T285.setTop (mkF m 340 #[.val (.int p1), .val (.ref b1), .val (.ref b68), .val (.int (14 : Int32)), .val (.ref (A 14)), .val (.ref (A 19))] [(.ref (A 19))])) _
      refine st287 _ ?_
      show Steps p.tables e below (T287.setTop (mkF m 343 #[.val (.int p1), .val (.ref b1), .val (.ref b68), .val (.int (14 : Int32)), .val (.ref (A 14)), .val (.ref (A 19))] [(.ref (A 19))])) _
      refine XS.aload X287.here hx rfl (hb hby at_343) rfl rfl ?_
      show Steps p.tables e below (T287.setTop (mkF m 345 #[.val (.int p1), .val (.ref b1), .val (.ref b68), .val (.int (14 : Int32)), .val (.ref (A 14)), .val (.ref (A 19))] [(.ref (A 19)), (.ref (A 19))])) _
      refine Jvm.RoadKit.acmp (g := (mkF m 345 #[.val (.int p1), .val (.ref b1), .val (.ref b68), .val (.int (14 : Int32)), .val (.ref (A 14)), .val (.ref (A 19))] [(.ref (A 19)), (.ref (A 19))])) X287 hx rfl rfl rfl (pc0 := 345) (pc' := 348) (same := true) rfl (hb hby at_345) rfl (decide_eq_true rfl) (by decide) (by decide) ?_
      show Steps p.tables e below (T287.setTop (mkF m 348 #[.val (.int p1), .val (.ref b1), .val (.ref b68), .val (.int (14 : Int32)), .val (.ref (A 14)), .val (.ref (A 19))] [])) _
      refine XS.iconst X287.here hx rfl (hb hby at_348) ?_
      show Steps p.tables e below (T287.setTop (mkF m 349 #[.val (.int p1), .val (.ref b1), .val (.ref b68), .val (.int (14 : Int32)), .val (.ref (A 14)), .val (.ref (A 19))] [(.int (1 : Int32))])) _
      refine XS.goto X287.here hx rfl (pc0 := 349) (pc' := 353) rfl (hb hby at_349) (by decide) (by decide) ?_
      show Steps p.tables e below (T287.setTop (mkF m 353 #[.val (.int p1), .val (.ref b1), .val (.ref b68), .val (.int (14 : Int32)), .val (.ref (A 14)), .val (.ref (A 19))] [(.int (1 : Int32))])) _
      exact retN X287 hx (t := .boolean) Bd.returns (by simp) (hb hby at_353) hr
    · show LQ n0 _ T287.heap _
      exact ⟨rfl, N287, trivial⟩
  | 15, _, hk136 =>
    have fx288 : Arv Z h134 b1 k1 (.object "com/example/dongl/dongl/core/ErrorCode") (22 : Int32) [(.ref (A 0)), (.ref (A 1)), (.ref (A 2)), (.ref (A 3)), (.ref (A 4)), (.ref (A 5)), (.ref (A 6)), (.ref (A 7)), (.ref (A 8)), (.ref (A 9)), (.ref (A 10)), (.ref (A 11)), (.ref (A 12)), (.ref (A 13)), (.ref (A 14)), (.ref (A 15)), (.ref (A 16)), (.ref (A 17)), (.ref (A 18)), (.ref (A 19)), (.ref (A 20)), (.ref (A 21))] .null := (((((((((((((((((((((((V67.ext E68).other W71 (Nat.ne_of_lt lt_b1_b68)).other W74 (Nat.ne_of_lt lt_b1_b68)).other W77 (Nat.ne_of_lt lt_b1_b68)).other W80 (Nat.ne_of_lt lt_b1_b68)).other W83 (Nat.ne_of_lt lt_b1_b68)).other W86 (Nat.ne_of_lt lt_b1_b68)).other W89 (Nat.ne_of_lt lt_b1_b68)).other W92 (Nat.ne_of_lt lt_b1_b68)).other W95 (Nat.ne_of_lt lt_b1_b68)).other W98 (Nat.ne_of_lt lt_b1_b68)).other W101 (Nat.ne_of_lt lt_b1_b68)).other W104 (Nat.ne_of_lt lt_b1_b68)).other W107 (Nat.ne_of_lt lt_b1_b68)).other W110 (Nat.ne_of_lt lt_b1_b68)).other W113 (Nat.ne_of_lt lt_b1_b68)).other W116 (Nat.ne_of_lt lt_b1_b68)).other W119 (Nat.ne_of_lt lt_b1_b68)).other W122 (Nat.ne_of_lt lt_b1_b68)).other W125 (Nat.ne_of_lt lt_b1_b68)).other W128 (Nat.ne_of_lt lt_b1_b68)).other W131 (Nat.ne_of_lt lt_b1_b68)).other W134 (Nat.ne_of_lt lt_b1_b68))
    obtain ⟨cl289, Ar289, q289, Sz289, Nn289, Hh289, Gg289⟩ := (id fx288)
    have hin289 : ¬ ((15 : Int32) < 0 ∨ cl289.slots.size ≤ ((15 : Int32)).toNatClampNeg) := inb_of Sz289 ⟨by decide, by decide⟩
    have hat289 : cl289.slots[((15 : Int32)).toNatClampNeg]? = some (.ref (A 15)) := Has.at Hh289 hin289 rfl
    obtain ⟨_, _, ⟨T295, L295, k295, n295⟩, -, X295, ⟨Lc295, hQ295, l295, y295, z295⟩, st295⟩ := Jvm.LawKit.callS X134 hx (y := own_m0) hown (mvT hZ (hw _ (List.mem_of_getElem? (i := 49) rfl))) (mvT hZ (hw _ (List.mem_of_getElem? (i := 50) rfl))) (mvT hZ (hw _ (List.mem_of_getElem? (i := 51) rfl))) (mvT hZ (hw _ (List.mem_of_getElem? (i := 52) rfl))) (by decide) (backOf (W := 0) (rm35 l Z a0 hw [] h134 n0 p1 A K EN OL134) hZ (hw _ (List.mem_of_getElem? (i := 52) rfl)) (hw _ (List.mem_of_getElem? (i := 51) rfl)) (by decide) (by decide)) (g := (mkF m 323 #[.val (.int p1), .val (.ref b1), .val (.ref b68), .val (.int (15 : Int32)), .val (.ref (A 15)), .unset] [(.ref (A 15))])) rfl (by rw [hml]; rfl) (argsL := [(.ref (A 15))]) (rest := []) (lenOf own_pd1 rfl) rfl (by show 2 * 0 + _ ≤ _; exact Nat.le_of_eq rfl) (hb hby at_323) (fun _ _ => ⟨rfl, e134, (by decide : 2 + 0 ≤ _), (by decide : 44 + 0 ≤ _)⟩)
    dsimp only [Pt.U, Pt.locs, Pt.cells, Pt.slots] at X295 l295 y295 z295 st295 hQ295
    replace X295 := own_sub X295 l295 y295 z295
    obtain ⟨rfl, N295q, e295⟩ := hQ295
    have N295 := Fr.app NF134 N295q
    obtain ⟨cl296, Ar296, q296, Sz296, Nn296, Hh296, Gg296⟩ := (id V134)
    have hin296 : ¬ ((15 : Int32) < 0 ∨ cl296.slots.size ≤ ((15 : Int32)).toNatClampNeg) := inb_of Sz296 ⟨by decide, by decide⟩
    have hat296 : cl296.slots[((15 : Int32)).toNatClampNeg]? = some (.ref (A 18)) := Has.at Hh296 hin296 rfl
    obtain ⟨_, _, ⟨T301, L301, k301, n301⟩, -, X301, ⟨Lc301, hQ301, l301, y301, z301⟩, st301⟩ := Jvm.LawKit.callS X295 hx (y := own_m0) hown (mvT hZ (hw _ (List.mem_of_getElem? (i := 49) rfl))) (mvT hZ (hw _ (List.mem_of_getElem? (i := 50) rfl))) (mvT hZ (hw _ (List.mem_of_getElem? (i := 51) rfl))) (mvT hZ (hw _ (List.mem_of_getElem? (i := 52) rfl))) (by decide) (backOf (W := 0) (rm37 l Z a0 hw [] h134 n0 p1 A K EN OL134) hZ (hw _ (List.mem_of_getElem? (i := 52) rfl)) (hw _ (List.mem_of_getElem? (i := 51) rfl)) (by decide) (by decide)) (g := (mkF m 340 #[.val (.int p1), .val (.ref b1), .val (.ref b68), .val (.int (15 : Int32)), .val (.ref (A 15)), .val (.ref (A 18))] [(.ref (A 18))])) rfl (by rw [hml]; rfl) (argsL := [(.ref (A 18))]) (rest := []) (lenOf own_pd1 rfl) rfl (by show 2 * 0 + _ ≤ _; exact Nat.le_of_eq rfl) (hb hby at_340) (fun _ _ => ⟨rfl, e295, (by decide : 2 + 0 ≤ _), (by decide : 44 + 0 ≤ _)⟩)
    dsimp only [Pt.U, Pt.locs, Pt.cells, Pt.slots] at X301 l301 y301 z301 st301 hQ301
    replace X301 := own_sub X301 l301 y301 z301
    obtain ⟨rfl, N301q, e301⟩ := hQ301
    have N301 := Fr.app N295 N301q
    obtain ⟨fs, hr, hrun, hended, hW, hsame⟩ := X301.leave (v := some (.int (1 : Int32))) (fun h => by rw [Bd.returns] at h; cases h)
    refine ⟨_, _, pre135 _ ?_, hrun, hended, _, _, rfl, ?_, ⟨_, rfl⟩, hW, hsame.mono (by decide) (by decide)⟩
    · show Steps p.tables e below (T134.setTop (mkF m 315 #[.val (.int p1), .val (.ref b1), .val (.ref b68), .unset, .unset, .unset] [(.int ((p1 &&& (2147483647 : Int32)) % (22 : Int32)))])) _
      rw [hk136]
      show Steps p.tables e below (T134.setTop (mkF m 315 #[.val (.int p1), .val (.ref b1), .val (.ref b68), .unset, .unset, .unset] [(.int (15 : Int32))])) _
      refine XS.istoreN X134.here hx rfl (hb hby at_315) rfl (l' := #[.val (.int p1), .val (.ref b1), .val (.ref b68), .val (.int (15 : Int32)), .unset, .unset]) rfl ?_
      show Steps p.tables e below (T134.setTop (mkF m 316 #[.val (.int p1), .val (.ref b1), .val (.ref b68), .val (.int (15 : Int32)), .unset, .unset] [])) _
      refine XS.aloadN X134.here hx rfl (hb hby at_316) rfl rfl ?_
      show Steps p.tables e below (T134.setTop (mkF m 317 #[.val (.int p1), .val (.ref b1), .val (.ref b68), .val (.int (15 : Int32)), .unset, .unset] [(.ref b1)])) _
      refine XS.iloadN X134.here hx rfl (hb hby at_317) rfl ?_
      show Steps p.tables e below (T134.setTop (mkF m 318 #[.val (.int p1), .val (.ref b1), .val (.ref b68), .val (.int (15 : Int32)), .unset, .unset] [(.int (15 : Int32)), (.ref b1)])) _
      refine X134.aaload hx (j := (15 : Int32)) (v := (.ref (A 15))) (by rw [e134]; exact Ar289.1) (State.isArrayOf_alike hZ.alike Ar289.2.1) rfl Ar289.2.2 hin289 hat289 (g := (mkF m 318 #[.val (.int p1), .val (.ref b1), .val (.ref b68), .val (.int (15 : Int32)), .unset, .unset] [(.int (15 : Int32)), (.ref b1)])) rfl rfl (hb hby at_318) _ ?_
      show Steps p.tables e below (T134.setTop (mkF m 319 #[.val (.int p1), .val (.ref b1), .val (.ref b68), .val (.int (15 : Int32)), .unset, .unset] [(.ref (A 15))])) _
      refine XS.astore X134.here hx rfl (hb hby at_319) rfl rfl (l' := #[.val (.int p1), .val (.ref b1), .val (.ref b68), .val (.int (15 : Int32)), .val (.ref (A 15)), .unset]) rfl ?_
      show Steps p.tables e below (T134.setTop (mkF m 321 #[.val (.int p1), .val (.ref b1), .val (.ref b68), .val (.int (15 : Int32)), .val (.ref (A 15)), .unset] [])) _
      refine XS.aload X134.here hx rfl (hb hby at_321) rfl rfl ?_
      show Steps p.tables e below (T134.setTop (mkF m 323 #[.val (.int p1), .val (.ref b1), .val (.ref b68), .val (.int (15 : Int32)), .val (.ref (A 15)), .unset] [(.ref (A 15))])) _
      refine st295 _ ?_
      show Steps p.tables e below (T295.setTop (mkF m 326 #[.val (.int p1), .val (.ref b1), .val (.ref b68), .val (.int (15 : Int32)), .val (.ref (A 15)), .unset] [(.ref (A 18))])) _
      refine XS.astore X295.here hx rfl (hb hby at_326) rfl rfl (l' := #[.val (.int p1), .val (.ref b1), .val (.ref b68), .val (.int (15 : Int32)), .val (.ref (A 15)), .val (.ref (A 18))]) rfl ?_
      show Steps p.tables e below (T295.setTop (mkF m 328 #[.val (.int p1), .val (.ref b1), .val (.ref b68), .val (.int (15 : Int32)), .val (.ref (A 15)), .val (.ref (A 18))] [])) _
      refine XS.aload X295.here hx rfl (hb hby at_328) rfl rfl ?_
      show Steps p.tables e below (T295.setTop (mkF m 330 #[.val (.int p1), .val (.ref b1), .val (.ref b68), .val (.int (15 : Int32)), .val (.ref (A 15)), .val (.ref (A 18))] [(.ref (A 18))])) _
      refine XS.aloadN X295.here hx rfl (hb hby at_330) rfl rfl ?_
      show Steps p.tables e below (T295.setTop (mkF m 331 #[.val (.int p1), .val (.ref b1), .val (.ref b68), .val (.int (15 : Int32)), .val (.ref (A 15)), .val (.ref (A 18))] [(.ref b68), (.ref (A 18))])) _
      refine XS.iloadN X295.here hx rfl (hb hby at_331) rfl ?_
      show Steps p.tables e below (T295.setTop (mkF m 332 #[.val (.int p1), .val (.ref b1), .val (.ref b68), .val (.int (15 : Int32)), .val (.ref (A 15)), .val (.ref (A 18))] [(.int (15 : Int32)), (.ref b68), (.ref (A 18))])) _
      refine X295.aaload hx (j := (15 : Int32)) (v := (.ref (A 18))) (by rw [e295]; exact Ar296.1) (State.isArrayOf_alike hZ.alike Ar296.2.1) rfl Ar296.2.2 hin296 hat296 (g := (mkF m 332 #[.val (.int p1), .val (.ref b1), .val (.ref b68), .val (.int (15 : Int32)), .val (.ref (A 15)), .val (.ref (A 18))] [(.int (15 : Int32)), (.ref b68), (.ref (A 18))])) rfl rfl (hb hby at_332) _ ?_
      show Steps p.tables e below (T295.setTop (mkF m 333 #[.val (.int p1), .val (.ref b1), .val (.ref b68), .val (.int (15 : Int32)), .val (.ref (A 15)), .val (.ref (A 18))] [(.ref (A 18)), (.ref (A 18))])) _
      refine Jvm.RoadKit.acmp (g := (mkF m 333 #[.val (.int p1), .val (.ref b1), .val (.ref b68), .val (.int (15 : Int32)), .val (.ref (A 15)), .val (.ref (A 18))] [(.ref (A 18)), (.ref (A 18))])) X295 hx rfl rfl rfl (pc0 := 333) (pc' := 338) (same := true) rfl (hb hby at_333) rfl (decide_eq_true rfl) (by decide) (by decide) ?_
      show Steps p.tables e below (T295.setTop (mkF m 338 #[.val (.int p1), .val (.ref b1), .val (.ref b68), .val (.int (15 : Int32)), .val (.ref (A 15)), .val (.ref (A 18))] [])) _
      refine XS.aload X295.here hx rfl (hb hby at_338) rfl rfl ?_
      show Steps p.tables e below (T295.setTop (mkF m 340 #[.val (.int p1), .val (.ref b1), .val (.ref b68), .val (.int (15 : Int32)), .val (.ref (A 15)), .val (.ref (A 18))] [(.ref (A 18))])) _
      refine st301 _ ?_
      show Steps p.tables e below (T301.setTop (mkF m 343 #[.val (.int p1), .val (.ref b1), .val (.ref b68), .val (.int (15 : Int32)), .val (.ref (A 15)), .val (.ref (A 18))] [(.ref (A 18))])) _
      refine XS.aload X301.here hx rfl (hb hby at_343) rfl rfl ?_
      show Steps p.tables e below (T301.setTop (mkF m 345 #[.val (.int p1), .val (.ref b1), .val (.ref b68), .val (.int (15 : Int32)), .val (.ref (A 15)), .val (.ref (A 18))] [(.ref (A 18)), (.ref (A 18))])) _
      refine Jvm.RoadKit.acmp (g := (mkF m 345 #[.val (.int p1), .val (.ref b1), .val (.ref b68), .val (.int (15 : Int32)), .val (.ref (A 15)), .val (.ref (A 18))] [(.ref (A 18)), (.ref (A 18))])) X301 hx rfl rfl rfl (pc0 := 345) (pc' := 348) (same := true) rfl (hb hby at_345) rfl (decide_eq_true rfl) (by decide) (by decide) ?_
      show Steps p.tables e below (T301.setTop (mkF m 348 #[.val (.int p1), .val (.ref b1), .val (.ref b68), .val (.int (15 : Int32)), .val (.ref (A 15)), .val (.ref (A 18))] [])) _
      refine XS.iconst X301.here hx rfl (hb hby at_348) ?_
      show Steps p.tables e below (T301.setTop (mkF m 349 #[.val (.int p1), .val (.ref b1), .val (.ref b68), .val (.int (15 : Int32)), .val (.ref (A 15)), .val (.ref (A 18))] [(.int (1 : Int32))])) _
      refine XS.goto X301.here hx rfl (pc0 := 349) (pc' := 353) rfl (hb hby at_349) (by decide) (by decide) ?_
      show Steps p.tables e below (T301.setTop (mkF m 353 #[.val (.int p1), .val (.ref b1), .val (.ref b68), .val (.int (15 : Int32)), .val (.ref (A 15)), .val (.ref (A 18))] [(.int (1 : Int32))])) _
      exact retN X301 hx (t := .boolean) Bd.returns (by simp) (hb hby at_353) hr
    · show LQ n0 _ T301.heap _
      exact ⟨rfl, N301, trivial⟩
  | 16, _, hk136 =>
    have fx302 : Arv Z h134 b1 k1 (.object "com/example/dongl/dongl/core/ErrorCode") (22 : Int32) [(.ref (A 0)), (.ref (A 1)), (.ref (A 2)), (.ref (A 3)), (.ref (A 4)), (.ref (A 5)), (.ref (A 6)), (.ref (A 7)), (.ref (A 8)), (.ref (A 9)), (.ref (A 10)), (.ref (A 11)), (.ref (A 12)), (.ref (A 13)), (.ref (A 14)), (.ref (A 15)), (.ref (A 16)), (.ref (A 17)), (.ref (A 18)), (.ref (A 19)), (.ref (A 20)), (.ref (A 21))] .null := (((((((((((((((((((((((V67.ext E68).other W71 (Nat.ne_of_lt lt_b1_b68)).other W74 (Nat.ne_of_lt lt_b1_b68)).other W77 (Nat.ne_of_lt lt_b1_b68)).other W80 (Nat.ne_of_lt lt_b1_b68)).other W83 (Nat.ne_of_lt lt_b1_b68)).other W86 (Nat.ne_of_lt lt_b1_b68)).other W89 (Nat.ne_of_lt lt_b1_b68)).other W92 (Nat.ne_of_lt lt_b1_b68)).other W95 (Nat.ne_of_lt lt_b1_b68)).other W98 (Nat.ne_of_lt lt_b1_b68)).other W101 (Nat.ne_of_lt lt_b1_b68)).other W104 (Nat.ne_of_lt lt_b1_b68)).other W107 (Nat.ne_of_lt lt_b1_b68)).other W110 (Nat.ne_of_lt lt_b1_b68)).other W113 (Nat.ne_of_lt lt_b1_b68)).other W116 (Nat.ne_of_lt lt_b1_b68)).other W119 (Nat.ne_of_lt lt_b1_b68)).other W122 (Nat.ne_of_lt lt_b1_b68)).other W125 (Nat.ne_of_lt lt_b1_b68)).other W128 (Nat.ne_of_lt lt_b1_b68)).other W131 (Nat.ne_of_lt lt_b1_b68)).other W134 (Nat.ne_of_lt lt_b1_b68))
    obtain ⟨cl303, Ar303, q303, Sz303, Nn303, Hh303, Gg303⟩ := (id fx302)
    have hin303 : ¬ ((16 : Int32) < 0 ∨ cl303.slots.size ≤ ((16 : Int32)).toNatClampNeg) := inb_of Sz303 ⟨by decide, by decide⟩
    have hat303 : cl303.slots[((16 : Int32)).toNatClampNeg]? = some (.ref (A 16)) := Has.at Hh303 hin303 rfl
    obtain ⟨_, _, ⟨T309, L309, k309, n309⟩, -, X309, ⟨Lc309, hQ309, l309, y309, z309⟩, st309⟩ := Jvm.LawKit.callS X134 hx (y := own_m0) hown (mvT hZ (hw _ (List.mem_of_getElem? (i := 49) rfl))) (mvT hZ (hw _ (List.mem_of_getElem? (i := 50) rfl))) (mvT hZ (hw _ (List.mem_of_getElem? (i := 51) rfl))) (mvT hZ (hw _ (List.mem_of_getElem? (i := 52) rfl))) (by decide) (backOf (W := 0) (rm39 l Z a0 hw [] h134 n0 p1 A K EN OL134) hZ (hw _ (List.mem_of_getElem? (i := 52) rfl)) (hw _ (List.mem_of_getElem? (i := 51) rfl)) (by decide) (by decide)) (g := (mkF m 323 #[.val (.int p1), .val (.ref b1), .val (.ref b68), .val (.int (16 : Int32)), .val (.ref (A 16)), .unset] [(.ref (A 16))])) rfl (by rw [hml]; rfl) (argsL := [(.ref (A 16))]) (rest := []) (lenOf own_pd1 rfl) rfl (by show 2 * 0 + _ ≤ _; exact Nat.le_of_eq rfl) (hb hby at_323) (fun _ _ => ⟨rfl, e134, (by decide : 2 + 0 ≤ _), (by decide : 44 + 0 ≤ _)⟩)
    dsimp only [Pt.U, Pt.locs, Pt.cells, Pt.slots] at X309 l309 y309 z309 st309 hQ309
    replace X309 := own_sub X309 l309 y309 z309
    obtain ⟨rfl, N309q, e309⟩ := hQ309
    have N309 := Fr.app NF134 N309q
    obtain ⟨cl310, Ar310, q310, Sz310, Nn310, Hh310, Gg310⟩ := (id V134)
    have hin310 : ¬ ((16 : Int32) < 0 ∨ cl310.slots.size ≤ ((16 : Int32)).toNatClampNeg) := inb_of Sz310 ⟨by decide, by decide⟩
    have hat310 : cl310.slots[((16 : Int32)).toNatClampNeg]? = some (.ref (A 19)) := Has.at Hh310 hin310 rfl
    obtain ⟨_, _, ⟨T311, L311, k311, n311⟩, -, X311, ⟨Lc311, hQ311, l311, y311, z311⟩, st311⟩ := Jvm.LawKit.callS X309 hx (y := own_m0) hown (mvT hZ (hw _ (List.mem_of_getElem? (i := 49) rfl))) (mvT hZ (hw _ (List.mem_of_getElem? (i := 50) rfl))) (mvT hZ (hw _ (List.mem_of_getElem? (i := 51) rfl))) (mvT hZ (hw _ (List.mem_of_getElem? (i := 52) rfl))) (by decide) (backOf (W := 0) (rm15 l Z a0 hw [] h134 n0 p1 A K EN OL134) hZ (hw _ (List.mem_of_getElem? (i := 52) rfl)) (hw _ (List.mem_of_getElem? (i := 51) rfl)) (by decide) (by decide)) (g := (mkF m 340 #[.val (.int p1), .val (.ref b1), .val (.ref b68), .val (.int (16 : Int32)), .val (.ref (A 16)), .val (.ref (A 19))] [(.ref (A 19))])) rfl (by rw [hml]; rfl) (argsL := [(.ref (A 19))]) (rest := []) (lenOf own_pd1 rfl) rfl (by show 2 * 0 + _ ≤ _; exact Nat.le_of_eq rfl) (hb hby at_340) (fun _ _ => ⟨rfl, e309, (by decide : 2 + 0 ≤ _), (by decide : 44 + 0 ≤ _)⟩)
    dsimp only [Pt.U, Pt.locs, Pt.cells, Pt.slots] at X311 l311 y311 z311 st311 hQ311
    replace X311 := own_sub X311 l311 y311 z311
    obtain ⟨rfl, N311q, e311⟩ := hQ311
    have N311 := Fr.app N309 N311q
    obtain ⟨fs, hr, hrun, hended, hW, hsame⟩ := X311.leave (v := some (.int (1 : Int32))) (fun h => by rw [Bd.returns] at h; cases h)
    refine ⟨_, _, pre135 _ ?_, hrun, hended, _, _, rfl, ?_, ⟨_, rfl⟩, hW, hsame.mono (by decide) (by decide)⟩
    · show Steps p.tables e below (T134.setTop (mkF m 315 #[.val (.int p1), .val (.ref b1), .val (.ref b68), .unset, .unset, .unset] [(.int ((p1 &&& (2147483647 : Int32)) % (22 : Int32)))])) _
      rw [hk136]
      show Steps p.tables e below (T134.setTop (mkF m 315 #[.val (.int p1), .val (.ref b1), .val (.ref b68), .unset, .unset, .unset] [(.int (16 : Int32))])) _
      refine XS.istoreN X134.here hx rfl (hb hby at_315) rfl (l' := #[.val (.int p1), .val (.ref b1), .val (.ref b68), .val (.int (16 : Int32)), .unset, .unset]) rfl ?_
      show Steps p.tables e below (T134.setTop (mkF m 316 #[.val (.int p1), .val (.ref b1), .val (.ref b68), .val (.int (16 : Int32)), .unset, .unset] [])) _
      refine XS.aloadN X134.here hx rfl (hb hby at_316) rfl rfl ?_
      show Steps p.tables e below (T134.setTop (mkF m 317 #[.val (.int p1), .val (.ref b1), .val (.ref b68), .val (.int (16 : Int32)), .unset, .unset] [(.ref b1)])) _
      refine XS.iloadN X134.here hx rfl (hb hby at_317) rfl ?_
      show Steps p.tables e below (T134.setTop (mkF m 318 #[.val (.int p1), .val (.ref b1), .val (.ref b68), .val (.int (16 : Int32)), .unset, .unset] [(.int (16 : Int32)), (.ref b1)])) _
      refine X134.aaload hx (j := (16 : Int32)) (v := (.ref (A 16))) (by rw [e134]; exact Ar303.1) (State.isArrayOf_alike hZ.alike Ar303.2.1) rfl Ar303.2.2 hin303 hat303 (g := (mkF m 318 #[.val (.int p1), .val (.ref b1), .val (.ref b68), .val (.int (16 : Int32)), .unset, .unset] [(.int (16 : Int32)), (.ref b1)])) rfl rfl (hb hby at_318) _ ?_
      show Steps p.tables e below (T134.setTop (mkF m 319 #[.val (.int p1), .val (.ref b1), .val (.ref b68), .val (.int (16 : Int32)), .unset, .unset] [(.ref (A 16))])) _
      refine XS.astore X134.here hx rfl (hb hby at_319) rfl rfl (l' := #[.val (.int p1), .val (.ref b1), .val (.ref b68), .val (.int (16 : Int32)), .val (.ref (A 16)), .unset]) rfl ?_
      show Steps p.tables e below (T134.setTop (mkF m 321 #[.val (.int p1), .val (.ref b1), .val (.ref b68), .val (.int (16 : Int32)), .val (.ref (A 16)), .unset] [])) _
      refine XS.aload X134.here hx rfl (hb hby at_321) rfl rfl ?_
      show Steps p.tables e below (T134.setTop (mkF m 323 #[.val (.int p1), .val (.ref b1), .val (.ref b68), .val (.int (16 : Int32)), .val (.ref (A 16)), .unset] [(.ref (A 16))])) _
      refine st309 _ ?_
      show Steps p.tables e below (T309.setTop (mkF m 326 #[.val (.int p1), .val (.ref b1), .val (.ref b68), .val (.int (16 : Int32)), .val (.ref (A 16)), .unset] [(.ref (A 19))])) _
      refine XS.astore X309.here hx rfl (hb hby at_326) rfl rfl (l' := #[.val (.int p1), .val (.ref b1), .val (.ref b68), .val (.int (16 : Int32)), .val (.ref (A 16)), .val (.ref (A 19))]) rfl ?_
      show Steps p.tables e below (T309.setTop (mkF m 328 #[.val (.int p1), .val (.ref b1), .val (.ref b68), .val (.int (16 : Int32)), .val (.ref (A 16)), .val (.ref (A 19))] [])) _
      refine XS.aload X309.here hx rfl (hb hby at_328) rfl rfl ?_
      show Steps p.tables e below (T309.setTop (mkF m 330 #[.val (.int p1), .val (.ref b1), .val (.ref b68), .val (.int (16 : Int32)), .val (.ref (A 16)), .val (.ref (A 19))] [(.ref (A 19))])) _
      refine XS.aloadN X309.here hx rfl (hb hby at_330) rfl rfl ?_
      show Steps p.tables e below (T309.setTop (mkF m 331 #[.val (.int p1), .val (.ref b1), .val (.ref b68), .val (.int (16 : Int32)), .val (.ref (A 16)), .val (.ref (A 19))] [(.ref b68), (.ref (A 19))])) _
      refine XS.iloadN X309.here hx rfl (hb hby at_331) rfl ?_
      show Steps p.tables e below (T309.setTop (mkF m 332 #[.val (.int p1), .val (.ref b1), .val (.ref b68), .val (.int (16 : Int32)), .val (.ref (A 16)), .val (.ref (A 19))] [(.int (16 : Int32)), (.ref b68), (.ref (A 19))])) _
      refine X309.aaload hx (j := (16 : Int32)) (v := (.ref (A 19))) (by rw [e309]; exact Ar310.1) (State.isArrayOf_alike hZ.alike Ar310.2.1) rfl Ar310.2.2 hin310 hat310 (g := (mkF m 332 #[.val (.int p1), .val (.ref b1), .val (.ref b68), .val (.int (16 : Int32)), .val (.ref (A 16)), .val (.ref (A 19))] [(.int (16 : Int32)), (.ref b68), (.ref (A 19))])) rfl rfl (hb hby at_332) _ ?_
      show Steps p.tables e below (T309.setTop (mkF m 333 #[.val (.int p1), .val (.ref b1), .val (.ref b68), .val (.int (16 : Int32)), .val (.ref (A 16)), .val (.ref (A 19))] [(.ref (A 19)), (.ref (A 19))])) _
      refine Jvm.RoadKit.acmp (g := (mkF m 333 #[.val (.int p1), .val (.ref b1), .val (.ref b68), .val (.int (16 : Int32)), .val (.ref (A 16)), .val (.ref (A 19))] [(.ref (A 19)), (.ref (A 19))])) X309 hx rfl rfl rfl (pc0 := 333) (pc' := 338) (same := true) rfl (hb hby at_333) rfl (decide_eq_true rfl) (by decide) (by decide) ?_
      show Steps p.tables e below (T309.setTop (mkF m 338 #[.val (.int p1), .val (.ref b1), .val (.ref b68), .val (.int (16 : Int32)), .val (.ref (A 16)), .val (.ref (A 19))] [])) _
      refine XS.aload X309.here hx rfl (hb hby at_338) rfl rfl ?_
      show Steps p.tables e below (T309.setTop (mkF m 340 #[.val (.int p1), .val (.ref b1), .val (.ref b68), .val (.int (16 : Int32)), .val (.ref (A 16)), .val (.ref (A 19))] [(.ref (A 19))])) _
      refine st311 _ ?_
      show Steps p.tables e below (T311.setTop (mkF m 343 #[.val (.int p1), .val (.ref b1), .val (.ref b68), .val (.int (16 : Int32)), .val (.ref (A 16)), .val (.ref (A 19))] [(.ref (A 19))])) _
      refine XS.aload X311.here hx rfl (hb hby at_343) rfl rfl ?_
      show Steps p.tables e below (T311.setTop (mkF m 345 #[.val (.int p1), .val (.ref b1), .val (.ref b68), .val (.int (16 : Int32)), .val (.ref (A 16)), .val (.ref (A 19))] [(.ref (A 19)), (.ref (A 19))])) _
      refine Jvm.RoadKit.acmp (g := (mkF m 345 #[.val (.int p1), .val (.ref b1), .val (.ref b68), .val (.int (16 : Int32)), .val (.ref (A 16)), .val (.ref (A 19))] [(.ref (A 19)), (.ref (A 19))])) X311 hx rfl rfl rfl (pc0 := 345) (pc' := 348) (same := true) rfl (hb hby at_345) rfl (decide_eq_true rfl) (by decide) (by decide) ?_
      show Steps p.tables e below (T311.setTop (mkF m 348 #[.val (.int p1), .val (.ref b1), .val (.ref b68), .val (.int (16 : Int32)), .val (.ref (A 16)), .val (.ref (A 19))] [])) _
      refine XS.iconst X311.here hx rfl (hb hby at_348) ?_
      show Steps p.tables e below (T311.setTop (mkF m 349 #[.val (.int p1), .val (.ref b1), .val (.ref b68), .val (.int (16 : Int32)), .val (.ref (A 16)), .val (.ref (A 19))] [(.int (1 : Int32))])) _
      refine XS.goto X311.here hx rfl (pc0 := 349) (pc' := 353) rfl (hb hby at_349) (by decide) (by decide) ?_
      show Steps p.tables e below (T311.setTop (mkF m 353 #[.val (.int p1), .val (.ref b1), .val (.ref b68), .val (.int (16 : Int32)), .val (.ref (A 16)), .val (.ref (A 19))] [(.int (1 : Int32))])) _
      exact retN X311 hx (t := .boolean) Bd.returns (by simp) (hb hby at_353) hr
    · show LQ n0 _ T311.heap _
      exact ⟨rfl, N311, trivial⟩
  | 17, _, hk136 =>
    have fx312 : Arv Z h134 b1 k1 (.object "com/example/dongl/dongl/core/ErrorCode") (22 : Int32) [(.ref (A 0)), (.ref (A 1)), (.ref (A 2)), (.ref (A 3)), (.ref (A 4)), (.ref (A 5)), (.ref (A 6)), (.ref (A 7)), (.ref (A 8)), (.ref (A 9)), (.ref (A 10)), (.ref (A 11)), (.ref (A 12)), (.ref (A 13)), (.ref (A 14)), (.ref (A 15)), (.ref (A 16)), (.ref (A 17)), (.ref (A 18)), (.ref (A 19)), (.ref (A 20)), (.ref (A 21))] .null := (((((((((((((((((((((((V67.ext E68).other W71 (Nat.ne_of_lt lt_b1_b68)).other W74 (Nat.ne_of_lt lt_b1_b68)).other W77 (Nat.ne_of_lt lt_b1_b68)).other W80 (Nat.ne_of_lt lt_b1_b68)).other W83 (Nat.ne_of_lt lt_b1_b68)).other W86 (Nat.ne_of_lt lt_b1_b68)).other W89 (Nat.ne_of_lt lt_b1_b68)).other W92 (Nat.ne_of_lt lt_b1_b68)).other W95 (Nat.ne_of_lt lt_b1_b68)).other W98 (Nat.ne_of_lt lt_b1_b68)).other W101 (Nat.ne_of_lt lt_b1_b68)).other W104 (Nat.ne_of_lt lt_b1_b68)).other W107 (Nat.ne_of_lt lt_b1_b68)).other W110 (Nat.ne_of_lt lt_b1_b68)).other W113 (Nat.ne_of_lt lt_b1_b68)).other W116 (Nat.ne_of_lt lt_b1_b68)).other W119 (Nat.ne_of_lt lt_b1_b68)).other W122 (Nat.ne_of_lt lt_b1_b68)).other W125 (Nat.ne_of_lt lt_b1_b68)).other W128 (Nat.ne_of_lt lt_b1_b68)).other W131 (Nat.ne_of_lt lt_b1_b68)).other W134 (Nat.ne_of_lt lt_b1_b68))
    obtain ⟨cl313, Ar313, q313, Sz313, Nn313, Hh313, Gg313⟩ := (id fx312)
    have hin313 : ¬ ((17 : Int32) < 0 ∨ cl313.slots.size ≤ ((17 : Int32)).toNatClampNeg) := inb_of Sz313 ⟨by decide, by decide⟩
    have hat313 : cl313.slots[((17 : Int32)).toNatClampNeg]? = some (.ref (A 17)) := Has.at Hh313 hin313 rfl
    obtain ⟨_, _, ⟨T318, L318, k318, n318⟩, -, X318, ⟨Lc318, hQ318, l318, y318, z318⟩, st318⟩ := Jvm.LawKit.callS X134 hx (y := own_m0) hown (mvT hZ (hw _ (List.mem_of_getElem? (i := 49) rfl))) (mvT hZ (hw _ (List.mem_of_getElem? (i := 50) rfl))) (mvT hZ (hw _ (List.mem_of_getElem? (i := 51) rfl))) (mvT hZ (hw _ (List.mem_of_getElem? (i := 52) rfl))) (by decide) (backOf (W := 0) (rm41 l Z a0 hw [] h134 n0 p1 A K EN OL134) hZ (hw _ (List.mem_of_getElem? (i := 52) rfl)) (hw _ (List.mem_of_getElem? (i := 51) rfl)) (by decide) (by decide)) (g := (mkF m 323 #[.val (.int p1), .val (.ref b1), .val (.ref b68), .val (.int (17 : Int32)), .val (.ref (A 17)), .unset] [(.ref (A 17))])) rfl (by rw [hml]; rfl) (argsL := [(.ref (A 17))]) (rest := []) (lenOf own_pd1 rfl) rfl (by show 2 * 0 + _ ≤ _; exact Nat.le_of_eq rfl) (hb hby at_323) (fun _ _ => ⟨rfl, e134, (by decide : 2 + 0 ≤ _), (by decide : 44 + 0 ≤ _)⟩)
    dsimp only [Pt.U, Pt.locs, Pt.cells, Pt.slots] at X318 l318 y318 z318 st318 hQ318
    replace X318 := own_sub X318 l318 y318 z318
    obtain ⟨rfl, N318q, e318⟩ := hQ318
    have N318 := Fr.app NF134 N318q
    obtain ⟨cl319, Ar319, q319, Sz319, Nn319, Hh319, Gg319⟩ := (id V134)
    have hin319 : ¬ ((17 : Int32) < 0 ∨ cl319.slots.size ≤ ((17 : Int32)).toNatClampNeg) := inb_of Sz319 ⟨by decide, by decide⟩
    have hat319 : cl319.slots[((17 : Int32)).toNatClampNeg]? = some (.ref (A 17)) := Has.at Hh319 hin319 rfl
    obtain ⟨_, _, ⟨T320, L320, k320, n320⟩, -, X320, ⟨Lc320, hQ320, l320, y320, z320⟩, st320⟩ := Jvm.LawKit.callS X318 hx (y := own_m0) hown (mvT hZ (hw _ (List.mem_of_getElem? (i := 49) rfl))) (mvT hZ (hw _ (List.mem_of_getElem? (i := 50) rfl))) (mvT hZ (hw _ (List.mem_of_getElem? (i := 51) rfl))) (mvT hZ (hw _ (List.mem_of_getElem? (i := 52) rfl))) (by decide) (backOf (W := 0) (rm41 l Z a0 hw [] h134 n0 p1 A K EN OL134) hZ (hw _ (List.mem_of_getElem? (i := 52) rfl)) (hw _ (List.mem_of_getElem? (i := 51) rfl)) (by decide) (by decide)) (g := (mkF m 340 #[.val (.int p1), .val (.ref b1), .val (.ref b68), .val (.int (17 : Int32)), .val (.ref (A 17)), .val (.ref (A 17))] [(.ref (A 17))])) rfl (by rw [hml]; rfl) (argsL := [(.ref (A 17))]) (rest := []) (lenOf own_pd1 rfl) rfl (by show 2 * 0 + _ ≤ _; exact Nat.le_of_eq rfl) (hb hby at_340) (fun _ _ => ⟨rfl, e318, (by decide : 2 + 0 ≤ _), (by decide : 44 + 0 ≤ _)⟩)
    dsimp only [Pt.U, Pt.locs, Pt.cells, Pt.slots] at X320 l320 y320 z320 st320 hQ320
    replace X320 := own_sub X320 l320 y320 z320
    obtain ⟨rfl, N320q, e320⟩ := hQ320
    have N320 := Fr.app N318 N320q
    obtain ⟨fs, hr, hrun, hended, hW, hsame⟩ := X320.leave (v := some (.int (1 : Int32))) (fun h => by rw [Bd.returns] at h; cases h)
    refine ⟨_, _, pre135 _ ?_, hrun, hended, _, _, rfl, ?_, ⟨_, rfl⟩, hW, hsame.mono (by decide) (by decide)⟩
    · show Steps p.tables e below (T134.setTop (mkF m 315 #[.val (.int p1), .val (.ref b1), .val (.ref b68), .unset, .unset, .unset] [(.int ((p1 &&& (2147483647 : Int32)) % (22 : Int32)))])) _
      rw [hk136]
      show Steps p.tables e below (T134.setTop (mkF m 315 #[.val (.int p1), .val (.ref b1), .val (.ref b68), .unset, .unset, .unset] [(.int (17 : Int32))])) _
      refine XS.istoreN X134.here hx rfl (hb hby at_315) rfl (l' := #[.val (.int p1), .val (.ref b1), .val (.ref b68), .val (.int (17 : Int32)), .unset, .unset]) rfl ?_
      show Steps p.tables e below (T134.setTop (mkF m 316 #[.val (.int p1), .val (.ref b1), .val (.ref b68), .val (.int (17 : Int32)), .unset, .unset] [])) _
      refine XS.aloadN X134.here hx rfl (hb hby at_316) rfl rfl ?_
      show Steps p.tables e below (T134.setTop (mkF m 317 #[.val (.int p1), .val (.ref b1), .val (.ref b68), .val (.int (17 : Int32)), .unset, .unset] [(.ref b1)])) _
      refine XS.iloadN X134.here hx rfl (hb hby at_317) rfl ?_
      show Steps p.tables e below (T134.setTop (mkF m 318 #[.val (.int p1), .val (.ref b1), .val (.ref b68), .val (.int (17 : Int32)), .unset, .unset] [(.int (17 : Int32)), (.ref b1)])) _
      refine X134.aaload hx (j := (17 : Int32)) (v := (.ref (A 17))) (by rw [e134]; exact Ar313.1) (State.isArrayOf_alike hZ.alike Ar313.2.1) rfl Ar313.2.2 hin313 hat313 (g := (mkF m 318 #[.val (.int p1), .val (.ref b1), .val (.ref b68), .val (.int (17 : Int32)), .unset, .unset] [(.int (17 : Int32)), (.ref b1)])) rfl rfl (hb hby at_318) _ ?_
      show Steps p.tables e below (T134.setTop (mkF m 319 #[.val (.int p1), .val (.ref b1), .val (.ref b68), .val (.int (17 : Int32)), .unset, .unset] [(.ref (A 17))])) _
      refine XS.astore X134.here hx rfl (hb hby at_319) rfl rfl (l' := #[.val (.int p1), .val (.ref b1), .val (.ref b68), .val (.int (17 : Int32)), .val (.ref (A 17)), .unset]) rfl ?_
      show Steps p.tables e below (T134.setTop (mkF m 321 #[.val (.int p1), .val (.ref b1), .val (.ref b68), .val (.int (17 : Int32)), .val (.ref (A 17)), .unset] [])) _
      refine XS.aload X134.here hx rfl (hb hby at_321) rfl rfl ?_
      show Steps p.tables e below (T134.setTop (mkF m 323 #[.val (.int p1), .val (.ref b1), .val (.ref b68), .val (.int (17 : Int32)), .val (.ref (A 17)), .unset] [(.ref (A 17))])) _
      refine st318 _ ?_
      show Steps p.tables e below (T318.setTop (mkF m 326 #[.val (.int p1), .val (.ref b1), .val (.ref b68), .val (.int (17 : Int32)), .val (.ref (A 17)), .unset] [(.ref (A 17))])) _
      refine XS.astore X318.here hx rfl (hb hby at_326) rfl rfl (l' := #[.val (.int p1), .val (.ref b1), .val (.ref b68), .val (.int (17 : Int32)), .val (.ref (A 17)), .val (.ref (A 17))]) rfl ?_
      show Steps p.tables e below (T318.setTop (mkF m 328 #[.val (.int p1), .val (.ref b1), .val (.ref b68), .val (.int (17 : Int32)), .val (.ref (A 17)), .val (.ref (A 17))] [])) _
      refine XS.aload X318.here hx rfl (hb hby at_328) rfl rfl ?_
      show Steps p.tables e below (T318.setTop (mkF m 330 #[.val (.int p1), .val (.ref b1), .val (.ref b68), .val (.int (17 : Int32)), .val (.ref (A 17)), .val (.ref (A 17))] [(.ref (A 17))])) _
      refine XS.aloadN X318.here hx rfl (hb hby at_330) rfl rfl ?_
      show Steps p.tables e below (T318.setTop (mkF m 331 #[.val (.int p1), .val (.ref b1), .val (.ref b68), .val (.int (17 : Int32)), .val (.ref (A 17)), .val (.ref (A 17))] [(.ref b68), (.ref (A 17))])) _
      refine XS.iloadN X318.here hx rfl (hb hby at_331) rfl ?_
      show Steps p.tables e below (T318.setTop (mkF m 332 #[.val (.int p1), .val (.ref b1), .val (.ref b68), .val (.int (17 : Int32)), .val (.ref (A 17)), .val (.ref (A 17))] [(.int (17 : Int32)), (.ref b68), (.ref (A 17))])) _
      refine X318.aaload hx (j := (17 : Int32)) (v := (.ref (A 17))) (by rw [e318]; exact Ar319.1) (State.isArrayOf_alike hZ.alike Ar319.2.1) rfl Ar319.2.2 hin319 hat319 (g := (mkF m 332 #[.val (.int p1), .val (.ref b1), .val (.ref b68), .val (.int (17 : Int32)), .val (.ref (A 17)), .val (.ref (A 17))] [(.int (17 : Int32)), (.ref b68), (.ref (A 17))])) rfl rfl (hb hby at_332) _ ?_
      show Steps p.tables e below (T318.setTop (mkF m 333 #[.val (.int p1), .val (.ref b1), .val (.ref b68), .val (.int (17 : Int32)), .val (.ref (A 17)), .val (.ref (A 17))] [(.ref (A 17)), (.ref (A 17))])) _
      refine Jvm.RoadKit.acmp (g := (mkF m 333 #[.val (.int p1), .val (.ref b1), .val (.ref b68), .val (.int (17 : Int32)), .val (.ref (A 17)), .val (.ref (A 17))] [(.ref (A 17)), (.ref (A 17))])) X318 hx rfl rfl rfl (pc0 := 333) (pc' := 338) (same := true) rfl (hb hby at_333) rfl (decide_eq_true rfl) (by decide) (by decide) ?_
      show Steps p.tables e below (T318.setTop (mkF m 338 #[.val (.int p1), .val (.ref b1), .val (.ref b68), .val (.int (17 : Int32)), .val (.ref (A 17)), .val (.ref (A 17))] [])) _
      refine XS.aload X318.here hx rfl (hb hby at_338) rfl rfl ?_
      show Steps p.tables e below (T318.setTop (mkF m 340 #[.val (.int p1), .val (.ref b1), .val (.ref b68), .val (.int (17 : Int32)), .val (.ref (A 17)), .val (.ref (A 17))] [(.ref (A 17))])) _
      refine st320 _ ?_
      show Steps p.tables e below (T320.setTop (mkF m 343 #[.val (.int p1), .val (.ref b1), .val (.ref b68), .val (.int (17 : Int32)), .val (.ref (A 17)), .val (.ref (A 17))] [(.ref (A 17))])) _
      refine XS.aload X320.here hx rfl (hb hby at_343) rfl rfl ?_
      show Steps p.tables e below (T320.setTop (mkF m 345 #[.val (.int p1), .val (.ref b1), .val (.ref b68), .val (.int (17 : Int32)), .val (.ref (A 17)), .val (.ref (A 17))] [(.ref (A 17)), (.ref (A 17))])) _
      refine Jvm.RoadKit.acmp (g := (mkF m 345 #[.val (.int p1), .val (.ref b1), .val (.ref b68), .val (.int (17 : Int32)), .val (.ref (A 17)), .val (.ref (A 17))] [(.ref (A 17)), (.ref (A 17))])) X320 hx rfl rfl rfl (pc0 := 345) (pc' := 348) (same := true) rfl (hb hby at_345) rfl (decide_eq_true rfl) (by decide) (by decide) ?_
      show Steps p.tables e below (T320.setTop (mkF m 348 #[.val (.int p1), .val (.ref b1), .val (.ref b68), .val (.int (17 : Int32)), .val (.ref (A 17)), .val (.ref (A 17))] [])) _
      refine XS.iconst X320.here hx rfl (hb hby at_348) ?_
      show Steps p.tables e below (T320.setTop (mkF m 349 #[.val (.int p1), .val (.ref b1), .val (.ref b68), .val (.int (17 : Int32)), .val (.ref (A 17)), .val (.ref (A 17))] [(.int (1 : Int32))])) _
      refine XS.goto X320.here hx rfl (pc0 := 349) (pc' := 353) rfl (hb hby at_349) (by decide) (by decide) ?_
      show Steps p.tables e below (T320.setTop (mkF m 353 #[.val (.int p1), .val (.ref b1), .val (.ref b68), .val (.int (17 : Int32)), .val (.ref (A 17)), .val (.ref (A 17))] [(.int (1 : Int32))])) _
      exact retN X320 hx (t := .boolean) Bd.returns (by simp) (hb hby at_353) hr
    · show LQ n0 _ T320.heap _
      exact ⟨rfl, N320, trivial⟩
  | 18, _, hk136 =>
    have fx321 : Arv Z h134 b1 k1 (.object "com/example/dongl/dongl/core/ErrorCode") (22 : Int32) [(.ref (A 0)), (.ref (A 1)), (.ref (A 2)), (.ref (A 3)), (.ref (A 4)), (.ref (A 5)), (.ref (A 6)), (.ref (A 7)), (.ref (A 8)), (.ref (A 9)), (.ref (A 10)), (.ref (A 11)), (.ref (A 12)), (.ref (A 13)), (.ref (A 14)), (.ref (A 15)), (.ref (A 16)), (.ref (A 17)), (.ref (A 18)), (.ref (A 19)), (.ref (A 20)), (.ref (A 21))] .null := (((((((((((((((((((((((V67.ext E68).other W71 (Nat.ne_of_lt lt_b1_b68)).other W74 (Nat.ne_of_lt lt_b1_b68)).other W77 (Nat.ne_of_lt lt_b1_b68)).other W80 (Nat.ne_of_lt lt_b1_b68)).other W83 (Nat.ne_of_lt lt_b1_b68)).other W86 (Nat.ne_of_lt lt_b1_b68)).other W89 (Nat.ne_of_lt lt_b1_b68)).other W92 (Nat.ne_of_lt lt_b1_b68)).other W95 (Nat.ne_of_lt lt_b1_b68)).other W98 (Nat.ne_of_lt lt_b1_b68)).other W101 (Nat.ne_of_lt lt_b1_b68)).other W104 (Nat.ne_of_lt lt_b1_b68)).other W107 (Nat.ne_of_lt lt_b1_b68)).other W110 (Nat.ne_of_lt lt_b1_b68)).other W113 (Nat.ne_of_lt lt_b1_b68)).other W116 (Nat.ne_of_lt lt_b1_b68)).other W119 (Nat.ne_of_lt lt_b1_b68)).other W122 (Nat.ne_of_lt lt_b1_b68)).other W125 (Nat.ne_of_lt lt_b1_b68)).other W128 (Nat.ne_of_lt lt_b1_b68)).other W131 (Nat.ne_of_lt lt_b1_b68)).other W134 (Nat.ne_of_lt lt_b1_b68))
    obtain ⟨cl322, Ar322, q322, Sz322, Nn322, Hh322, Gg322⟩ := (id fx321)
    have hin322 : ¬ ((18 : Int32) < 0 ∨ cl322.slots.size ≤ ((18 : Int32)).toNatClampNeg) := inb_of Sz322 ⟨by decide, by decide⟩
    have hat322 : cl322.slots[((18 : Int32)).toNatClampNeg]? = some (.ref (A 18)) := Has.at Hh322 hin322 rfl
    obtain ⟨_, _, ⟨T323, L323, k323, n323⟩, -, X323, ⟨Lc323, hQ323, l323, y323, z323⟩, st323⟩ := Jvm.LawKit.callS X134 hx (y := own_m0) hown (mvT hZ (hw _ (List.mem_of_getElem? (i := 49) rfl))) (mvT hZ (hw _ (List.mem_of_getElem? (i := 50) rfl))) (mvT hZ (hw _ (List.mem_of_getElem? (i := 51) rfl))) (mvT hZ (hw _ (List.mem_of_getElem? (i := 52) rfl))) (by decide) (backOf (W := 0) (rm37 l Z a0 hw [] h134 n0 p1 A K EN OL134) hZ (hw _ (List.mem_of_getElem? (i := 52) rfl)) (hw _ (List.mem_of_getElem? (i := 51) rfl)) (by decide) (by decide)) (g := (mkF m 323 #[.val (.int p1), .val (.ref b1), .val (.ref b68), .val (.int (18 : Int32)), .val (.ref (A 18)), .unset] [(.ref (A 18))])) rfl (by rw [hml]; rfl) (argsL := [(.ref (A 18))]) (rest := []) (lenOf own_pd1 rfl) rfl (by show 2 * 0 + _ ≤ _; exact Nat.le_of_eq rfl) (hb hby at_323) (fun _ _ => ⟨rfl, e134, (by decide : 2 + 0 ≤ _), (by decide : 44 + 0 ≤ _)⟩)
    dsimp only [Pt.U, Pt.locs, Pt.cells, Pt.slots] at X323 l323 y323 z323 st323 hQ323
    replace X323 := own_sub X323 l323 y323 z323
    obtain ⟨rfl, N323q, e323⟩ := hQ323
    have N323 := Fr.app NF134 N323q
    obtain ⟨cl324, Ar324, q324, Sz324, Nn324, Hh324, Gg324⟩ := (id V134)
    have hin324 : ¬ ((18 : Int32) < 0 ∨ cl324.slots.size ≤ ((18 : Int32)).toNatClampNeg) := inb_of Sz324 ⟨by decide, by decide⟩
    have hat324 : cl324.slots[((18 : Int32)).toNatClampNeg]? = some (.ref (A 18)) := Has.at Hh324 hin324 rfl
    obtain ⟨_, _, ⟨T325, L325, k325, n325⟩, -, X325, ⟨Lc325, hQ325, l325, y325, z325⟩, st325⟩ := Jvm.LawKit.callS X323 hx (y := own_m0) hown (mvT hZ (hw _ (List.mem_of_getElem? (i := 49) rfl))) (mvT hZ (hw _ (List.mem_of_getElem? (i := 50) rfl))) (mvT hZ (hw _ (List.mem_of_getElem? (i := 51) rfl))) (mvT hZ (hw _ (List.mem_of_getElem? (i := 52) rfl))) (by decide) (backOf (W := 0) (rm37 l Z a0 hw [] h134 n0 p1 A K EN OL134) hZ (hw _ (List.mem_of_getElem? (i := 52) rfl)) (hw _ (List.mem_of_getElem? (i := 51) rfl)) (by decide) (by decide)) (g := (mkF m 340 #[.val (.int p1), .val (.ref b1), .val (.ref b68), .val (.int (18 : Int32)), .val (.ref (A 18)), .val (.ref (A 18))] [(.ref (A 18))])) rfl (by rw [hml]; rfl) (argsL := [(.ref (A 18))]) (rest := []) (lenOf own_pd1 rfl) rfl (by show 2 * 0 + _ ≤ _; exact Nat.le_of_eq rfl) (hb hby at_340) (fun _ _ => ⟨rfl, e323, (by decide : 2 + 0 ≤ _), (by decide : 44 + 0 ≤ _)⟩)
    dsimp only [Pt.U, Pt.locs, Pt.cells, Pt.slots] at X325 l325 y325 z325 st325 hQ325
    replace X325 := own_sub X325 l325 y325 z325
    obtain ⟨rfl, N325q, e325⟩ := hQ325
    have N325 := Fr.app N323 N325q
    obtain ⟨fs, hr, hrun, hended, hW, hsame⟩ := X325.leave (v := some (.int (1 : Int32))) (fun h => by rw [Bd.returns] at h; cases h)
    refine ⟨_, _, pre135 _ ?_, hrun, hended, _, _, rfl, ?_, ⟨_, rfl⟩, hW, hsame.mono (by decide) (by decide)⟩
    · show Steps p.tables e below (T134.setTop (mkF m 315 #[.val (.int p1), .val (.ref b1), .val (.ref b68), .unset, .unset, .unset] [(.int ((p1 &&& (2147483647 : Int32)) % (22 : Int32)))])) _
      rw [hk136]
      show Steps p.tables e below (T134.setTop (mkF m 315 #[.val (.int p1), .val (.ref b1), .val (.ref b68), .unset, .unset, .unset] [(.int (18 : Int32))])) _
      refine XS.istoreN X134.here hx rfl (hb hby at_315) rfl (l' := #[.val (.int p1), .val (.ref b1), .val (.ref b68), .val (.int (18 : Int32)), .unset, .unset]) rfl ?_
      show Steps p.tables e below (T134.setTop (mkF m 316 #[.val (.int p1), .val (.ref b1), .val (.ref b68), .val (.int (18 : Int32)), .unset, .unset] [])) _
      refine XS.aloadN X134.here hx rfl (hb hby at_316) rfl rfl ?_
      show Steps p.tables e below (T134.setTop (mkF m 317 #[.val (.int p1), .val (.ref b1), .val (.ref b68), .val (.int (18 : Int32)), .unset, .unset] [(.ref b1)])) _
      refine XS.iloadN X134.here hx rfl (hb hby at_317) rfl ?_
      show Steps p.tables e below (T134.setTop (mkF m 318 #[.val (.int p1), .val (.ref b1), .val (.ref b68), .val (.int (18 : Int32)), .unset, .unset] [(.int (18 : Int32)), (.ref b1)])) _
      refine X134.aaload hx (j := (18 : Int32)) (v := (.ref (A 18))) (by rw [e134]; exact Ar322.1) (State.isArrayOf_alike hZ.alike Ar322.2.1) rfl Ar322.2.2 hin322 hat322 (g := (mkF m 318 #[.val (.int p1), .val (.ref b1), .val (.ref b68), .val (.int (18 : Int32)), .unset, .unset] [(.int (18 : Int32)), (.ref b1)])) rfl rfl (hb hby at_318) _ ?_
      show Steps p.tables e below (T134.setTop (mkF m 319 #[.val (.int p1), .val (.ref b1), .val (.ref b68), .val (.int (18 : Int32)), .unset, .unset] [(.ref (A 18))])) _
      refine XS.astore X134.here hx rfl (hb hby at_319) rfl rfl (l' := #[.val (.int p1), .val (.ref b1), .val (.ref b68), .val (.int (18 : Int32)), .val (.ref (A 18)), .unset]) rfl ?_
      show Steps p.tables e below (T134.setTop (mkF m 321 #[.val (.int p1), .val (.ref b1), .val (.ref b68), .val (.int (18 : Int32)), .val (.ref (A 18)), .unset] [])) _
      refine XS.aload X134.here hx rfl (hb hby at_321) rfl rfl ?_
      show Steps p.tables e below (T134.setTop (mkF m 323 #[.val (.int p1), .val (.ref b1), .val (.ref b68), .val (.int (18 : Int32)), .val (.ref (A 18)), .unset] [(.ref (A 18))])) _
      refine st323 _ ?_
      show Steps p.tables e below (T323.setTop (mkF m 326 #[.val (.int p1), .val (.ref b1), .val (.ref b68), .val (.int (18 : Int32)), .val (.ref (A 18)), .unset] [(.ref (A 18))])) _
      refine XS.astore X323.here hx rfl (hb hby at_326) rfl rfl (l' := #[.val (.int p1), .val (.ref b1), .val (.ref b68), .val (.int (18 : Int32)), .val (.ref (A 18)), .val (.ref (A 18))]) rfl ?_
      show Steps p.tables e below (T323.setTop (mkF m 328 #[.val (.int p1), .val (.ref b1), .val (.ref b68), .val (.int (18 : Int32)), .val (.ref (A 18)), .val (.ref (A 18))] [])) _
      refine XS.aload X323.here hx rfl (hb hby at_328) rfl rfl ?_
      show Steps p.tables e below (T323.setTop (mkF m 330 #[.val (.int p1), .val (.ref b1), .val (.ref b68), .val (.int (18 : Int32)), .val (.ref (A 18)), .val (.ref (A 18))] [(.ref (A 18))])) _
      refine XS.aloadN X323.here hx rfl (hb hby at_330) rfl rfl ?_
      show Steps p.tables e below (T323.setTop (mkF m 331 #[.val (.int p1), .val (.ref b1), .val (.ref b68), .val (.int (18 : Int32)), .val (.ref (A 18)), .val (.ref (A 18))] [(.ref b68), (.ref (A 18))])) _
      refine XS.iloadN X323.here hx rfl (hb hby at_331) rfl ?_
      show Steps p.tables e below (T323.setTop (mkF m 332 #[.val (.int p1), .val (.ref b1), .val (.ref b68), .val (.int (18 : Int32)), .val (.ref (A 18)), .val (.ref (A 18))] [(.int (18 : Int32)), (.ref b68), (.ref (A 18))])) _
      refine X323.aaload hx (j := (18 : Int32)) (v := (.ref (A 18))) (by rw [e323]; exact Ar324.1) (State.isArrayOf_alike hZ.alike Ar324.2.1) rfl Ar324.2.2 hin324 hat324 (g := (mkF m 332 #[.val (.int p1), .val (.ref b1), .val (.ref b68), .val (.int (18 : Int32)), .val (.ref (A 18)), .val (.ref (A 18))] [(.int (18 : Int32)), (.ref b68), (.ref (A 18))])) rfl rfl (hb hby at_332) _ ?_
      show Steps p.tables e below (T323.setTop (mkF m 333 #[.val (.int p1), .val (.ref b1), .val (.ref b68), .val (.int (18 : Int32)), .val (.ref (A 18)), .val (.ref (A 18))] [(.ref (A 18)), (.ref (A 18))])) _
      refine Jvm.RoadKit.acmp (g := (mkF m 333 #[.val (.int p1), .val (.ref b1), .val (.ref b68), .val (.int (18 : Int32)), .val (.ref (A 18)), .val (.ref (A 18))] [(.ref (A 18)), (.ref (A 18))])) X323 hx rfl rfl rfl (pc0 := 333) (pc' := 338) (same := true) rfl (hb hby at_333) rfl (decide_eq_true rfl) (by decide) (by decide) ?_
      show Steps p.tables e below (T323.setTop (mkF m 338 #[.val (.int p1), .val (.ref b1), .val (.ref b68), .val (.int (18 : Int32)), .val (.ref (A 18)), .val (.ref (A 18))] [])) _
      refine XS.aload X323.here hx rfl (hb hby at_338) rfl rfl ?_
      show Steps p.tables e below (T323.setTop (mkF m 340 #[.val (.int p1), .val (.ref b1), .val (.ref b68), .val (.int (18 : Int32)), .val (.ref (A 18)), .val (.ref (A 18))] [(.ref (A 18))])) _
      refine st325 _ ?_
      show Steps p.tables e below (T325.setTop (mkF m 343 #[.val (.int p1), .val (.ref b1), .val (.ref b68), .val (.int (18 : Int32)), .val (.ref (A 18)), .val (.ref (A 18))] [(.ref (A 18))])) _
      refine XS.aload X325.here hx rfl (hb hby at_343) rfl rfl ?_
      show Steps p.tables e below (T325.setTop (mkF m 345 #[.val (.int p1), .val (.ref b1), .val (.ref b68), .val (.int (18 : Int32)), .val (.ref (A 18)), .val (.ref (A 18))] [(.ref (A 18)), (.ref (A 18))])) _
      refine Jvm.RoadKit.acmp (g := (mkF m 345 #[.val (.int p1), .val (.ref b1), .val (.ref b68), .val (.int (18 : Int32)), .val (.ref (A 18)), .val (.ref (A 18))] [(.ref (A 18)), (.ref (A 18))])) X325 hx rfl rfl rfl (pc0 := 345) (pc' := 348) (same := true) rfl (hb hby at_345) rfl (decide_eq_true rfl) (by decide) (by decide) ?_
      show Steps p.tables e below (T325.setTop (mkF m 348 #[.val (.int p1), .val (.ref b1), .val (.ref b68), .val (.int (18 : Int32)), .val (.ref (A 18)), .val (.ref (A 18))] [])) _
      refine XS.iconst X325.here hx rfl (hb hby at_348) ?_
      show Steps p.tables e below (T325.setTop (mkF m 349 #[.val (.int p1), .val (.ref b1), .val (.ref b68), .val (.int (18 : Int32)), .val (.ref (A 18)), .val (.ref (A 18))] [(.int (1 : Int32))])) _
      refine XS.goto X325.here hx rfl (pc0 := 349) (pc' := 353) rfl (hb hby at_349) (by decide) (by decide) ?_
      show Steps p.tables e below (T325.setTop (mkF m 353 #[.val (.int p1), .val (.ref b1), .val (.ref b68), .val (.int (18 : Int32)), .val (.ref (A 18)), .val (.ref (A 18))] [(.int (1 : Int32))])) _
      exact retN X325 hx (t := .boolean) Bd.returns (by simp) (hb hby at_353) hr
    · show LQ n0 _ T325.heap _
      exact ⟨rfl, N325, trivial⟩
  | 19, _, hk136 =>
    have fx326 : Arv Z h134 b1 k1 (.object "com/example/dongl/dongl/core/ErrorCode") (22 : Int32) [(.ref (A 0)), (.ref (A 1)), (.ref (A 2)), (.ref (A 3)), (.ref (A 4)), (.ref (A 5)), (.ref (A 6)), (.ref (A 7)), (.ref (A 8)), (.ref (A 9)), (.ref (A 10)), (.ref (A 11)), (.ref (A 12)), (.ref (A 13)), (.ref (A 14)), (.ref (A 15)), (.ref (A 16)), (.ref (A 17)), (.ref (A 18)), (.ref (A 19)), (.ref (A 20)), (.ref (A 21))] .null := (((((((((((((((((((((((V67.ext E68).other W71 (Nat.ne_of_lt lt_b1_b68)).other W74 (Nat.ne_of_lt lt_b1_b68)).other W77 (Nat.ne_of_lt lt_b1_b68)).other W80 (Nat.ne_of_lt lt_b1_b68)).other W83 (Nat.ne_of_lt lt_b1_b68)).other W86 (Nat.ne_of_lt lt_b1_b68)).other W89 (Nat.ne_of_lt lt_b1_b68)).other W92 (Nat.ne_of_lt lt_b1_b68)).other W95 (Nat.ne_of_lt lt_b1_b68)).other W98 (Nat.ne_of_lt lt_b1_b68)).other W101 (Nat.ne_of_lt lt_b1_b68)).other W104 (Nat.ne_of_lt lt_b1_b68)).other W107 (Nat.ne_of_lt lt_b1_b68)).other W110 (Nat.ne_of_lt lt_b1_b68)).other W113 (Nat.ne_of_lt lt_b1_b68)).other W116 (Nat.ne_of_lt lt_b1_b68)).other W119 (Nat.ne_of_lt lt_b1_b68)).other W122 (Nat.ne_of_lt lt_b1_b68)).other W125 (Nat.ne_of_lt lt_b1_b68)).other W128 (Nat.ne_of_lt lt_b1_b68)).other W131 (Nat.ne_of_lt lt_b1_b68)).other W134 (Nat.ne_of_lt lt_b1_b68))
    obtain ⟨cl327, Ar327, q327, Sz327, Nn327, Hh327, Gg327⟩ := (id fx326)
    have hin327 : ¬ ((19 : Int32) < 0 ∨ cl327.slots.size ≤ ((19 : Int32)).toNatClampNeg) := inb_of Sz327 ⟨by decide, by decide⟩
    have hat327 : cl327.slots[((19 : Int32)).toNatClampNeg]? = some (.ref (A 19)) := Has.at Hh327 hin327 rfl
    obtain ⟨_, _, ⟨T328, L328, k328, n328⟩, -, X328, ⟨Lc328, hQ328, l328, y328, z328⟩, st328⟩ := Jvm.LawKit.callS X134 hx (y := own_m0) hown (mvT hZ (hw _ (List.mem_of_getElem? (i := 49) rfl))) (mvT hZ (hw _ (List.mem_of_getElem? (i := 50) rfl))) (mvT hZ (hw _ (List.mem_of_getElem? (i := 51) rfl))) (mvT hZ (hw _ (List.mem_of_getElem? (i := 52) rfl))) (by decide) (backOf (W := 0) (rm15 l Z a0 hw [] h134 n0 p1 A K EN OL134) hZ (hw _ (List.mem_of_getElem? (i := 52) rfl)) (hw _ (List.mem_of_getElem? (i := 51) rfl)) (by decide) (by decide)) (g := (mkF m 323 #[.val (.int p1), .val (.ref b1), .val (.ref b68), .val (.int (19 : Int32)), .val (.ref (A 19)), .unset] [(.ref (A 19))])) rfl (by rw [hml]; rfl) (argsL := [(.ref (A 19))]) (rest := []) (lenOf own_pd1 rfl) rfl (by show 2 * 0 + _ ≤ _; exact Nat.le_of_eq rfl) (hb hby at_323) (fun _ _ => ⟨rfl, e134, (by decide : 2 + 0 ≤ _), (by decide : 44 + 0 ≤ _)⟩)
    dsimp only [Pt.U, Pt.locs, Pt.cells, Pt.slots] at X328 l328 y328 z328 st328 hQ328
    replace X328 := own_sub X328 l328 y328 z328
    obtain ⟨rfl, N328q, e328⟩ := hQ328
    have N328 := Fr.app NF134 N328q
    obtain ⟨cl329, Ar329, q329, Sz329, Nn329, Hh329, Gg329⟩ := (id V134)
    have hin329 : ¬ ((19 : Int32) < 0 ∨ cl329.slots.size ≤ ((19 : Int32)).toNatClampNeg) := inb_of Sz329 ⟨by decide, by decide⟩
    have hat329 : cl329.slots[((19 : Int32)).toNatClampNeg]? = some (.ref (A 19)) := Has.at Hh329 hin329 rfl
    obtain ⟨_, _, ⟨T330, L330, k330, n330⟩, -, X330, ⟨Lc330, hQ330, l330, y330, z330⟩, st330⟩ := Jvm.LawKit.callS X328 hx (y := own_m0) hown (mvT hZ (hw _ (List.mem_of_getElem? (i := 49) rfl))) (mvT hZ (hw _ (List.mem_of_getElem? (i := 50) rfl))) (mvT hZ (hw _ (List.mem_of_getElem? (i := 51) rfl))) (mvT hZ (hw _ (List.mem_of_getElem? (i := 52) rfl))) (by decide) (backOf (W := 0) (rm15 l Z a0 hw [] h134 n0 p1 A K EN OL134) hZ (hw _ (List.mem_of_getElem? (i := 52) rfl)) (hw _ (List.mem_of_getElem? (i := 51) rfl)) (by decide) (by decide)) (g := (mkF m 340 #[.val (.int p1), .val (.ref b1), .val (.ref b68), .val (.int (19 : Int32)), .val (.ref (A 19)), .val (.ref (A 19))] [(.ref (A 19))])) rfl (by rw [hml]; rfl) (argsL := [(.ref (A 19))]) (rest := []) (lenOf own_pd1 rfl) rfl (by show 2 * 0 + _ ≤ _; exact Nat.le_of_eq rfl) (hb hby at_340) (fun _ _ => ⟨rfl, e328, (by decide : 2 + 0 ≤ _), (by decide : 44 + 0 ≤ _)⟩)
    dsimp only [Pt.U, Pt.locs, Pt.cells, Pt.slots] at X330 l330 y330 z330 st330 hQ330
    replace X330 := own_sub X330 l330 y330 z330
    obtain ⟨rfl, N330q, e330⟩ := hQ330
    have N330 := Fr.app N328 N330q
    obtain ⟨fs, hr, hrun, hended, hW, hsame⟩ := X330.leave (v := some (.int (1 : Int32))) (fun h => by rw [Bd.returns] at h; cases h)
    refine ⟨_, _, pre135 _ ?_, hrun, hended, _, _, rfl, ?_, ⟨_, rfl⟩, hW, hsame.mono (by decide) (by decide)⟩
    · show Steps p.tables e below (T134.setTop (mkF m 315 #[.val (.int p1), .val (.ref b1), .val (.ref b68), .unset, .unset, .unset] [(.int ((p1 &&& (2147483647 : Int32)) % (22 : Int32)))])) _
      rw [hk136]
      show Steps p.tables e below (T134.setTop (mkF m 315 #[.val (.int p1), .val (.ref b1), .val (.ref b68), .unset, .unset, .unset] [(.int (19 : Int32))])) _
      refine XS.istoreN X134.here hx rfl (hb hby at_315) rfl (l' := #[.val (.int p1), .val (.ref b1), .val (.ref b68), .val (.int (19 : Int32)), .unset, .unset]) rfl ?_
      show Steps p.tables e below (T134.setTop (mkF m 316 #[.val (.int p1), .val (.ref b1), .val (.ref b68), .val (.int (19 : Int32)), .unset, .unset] [])) _
      refine XS.aloadN X134.here hx rfl (hb hby at_316) rfl rfl ?_
      show Steps p.tables e below (T134.setTop (mkF m 317 #[.val (.int p1), .val (.ref b1), .val (.ref b68), .val (.int (19 : Int32)), .unset, .unset] [(.ref b1)])) _
      refine XS.iloadN X134.here hx rfl (hb hby at_317) rfl ?_
      show Steps p.tables e below (T134.setTop (mkF m 318 #[.val (.int p1), .val (.ref b1), .val (.ref b68), .val (.int (19 : Int32)), .unset, .unset] [(.int (19 : Int32)), (.ref b1)])) _
      refine X134.aaload hx (j := (19 : Int32)) (v := (.ref (A 19))) (by rw [e134]; exact Ar327.1) (State.isArrayOf_alike hZ.alike Ar327.2.1) rfl Ar327.2.2 hin327 hat327 (g := (mkF m 318 #[.val (.int p1), .val (.ref b1), .val (.ref b68), .val (.int (19 : Int32)), .unset, .unset] [(.int (19 : Int32)), (.ref b1)])) rfl rfl (hb hby at_318) _ ?_
      show Steps p.tables e below (T134.setTop (mkF m 319 #[.val (.int p1), .val (.ref b1), .val (.ref b68), .val (.int (19 : Int32)), .unset, .unset] [(.ref (A 19))])) _
      refine XS.astore X134.here hx rfl (hb hby at_319) rfl rfl (l' := #[.val (.int p1), .val (.ref b1), .val (.ref b68), .val (.int (19 : Int32)), .val (.ref (A 19)), .unset]) rfl ?_
      show Steps p.tables e below (T134.setTop (mkF m 321 #[.val (.int p1), .val (.ref b1), .val (.ref b68), .val (.int (19 : Int32)), .val (.ref (A 19)), .unset] [])) _
      refine XS.aload X134.here hx rfl (hb hby at_321) rfl rfl ?_
      show Steps p.tables e below (T134.setTop (mkF m 323 #[.val (.int p1), .val (.ref b1), .val (.ref b68), .val (.int (19 : Int32)), .val (.ref (A 19)), .unset] [(.ref (A 19))])) _
      refine st328 _ ?_
      show Steps p.tables e below (T328.setTop (mkF m 326 #[.val (.int p1), .val (.ref b1), .val (.ref b68), .val (.int (19 : Int32)), .val (.ref (A 19)), .unset] [(.ref (A 19))])) _
      refine XS.astore X328.here hx rfl (hb hby at_326) rfl rfl (l' := #[.val (.int p1), .val (.ref b1), .val (.ref b68), .val (.int (19 : Int32)), .val (.ref (A 19)), .val (.ref (A 19))]) rfl ?_
      show Steps p.tables e below (T328.setTop (mkF m 328 #[.val (.int p1), .val (.ref b1), .val (.ref b68), .val (.int (19 : Int32)), .val (.ref (A 19)), .val (.ref (A 19))] [])) _
      refine XS.aload X328.here hx rfl (hb hby at_328) rfl rfl ?_
      show Steps p.tables e below (T328.setTop (mkF m 330 #[.val (.int p1), .val (.ref b1), .val (.ref b68), .val (.int (19 : Int32)), .val (.ref (A 19)), .val (.ref (A 19))] [(.ref (A 19))])) _
      refine XS.aloadN X328.here hx rfl (hb hby at_330) rfl rfl ?_
      show Steps p.tables e below (T328.setTop (mkF m 331 #[.val (.int p1), .val (.ref b1), .val (.ref b68), .val (.int (19 : Int32)), .val (.ref (A 19)), .val (.ref (A 19))] [(.ref b68), (.ref (A 19))])) _
      refine XS.iloadN X328.here hx rfl (hb hby at_331) rfl ?_
      show Steps p.tables e below (T328.setTop (mkF m 332 #[.val (.int p1), .val (.ref b1), .val (.ref b68), .val (.int (19 : Int32)), .val (.ref (A 19)), .val (.ref (A 19))] [(.int (19 : Int32)), (.ref b68), (.ref (A 19))])) _
      refine X328.aaload hx (j := (19 : Int32)) (v := (.ref (A 19))) (by rw [e328]; exact Ar329.1) (State.isArrayOf_alike hZ.alike Ar329.2.1) rfl Ar329.2.2 hin329 hat329 (g := (mkF m 332 #[.val (.int p1), .val (.ref b1), .val (.ref b68), .val (.int (19 : Int32)), .val (.ref (A 19)), .val (.ref (A 19))] [(.int (19 : Int32)), (.ref b68), (.ref (A 19))])) rfl rfl (hb hby at_332) _ ?_
      show Steps p.tables e below (T328.setTop (mkF m 333 #[.val (.int p1), .val (.ref b1), .val (.ref b68), .val (.int (19 : Int32)), .val (.ref (A 19)), .val (.ref (A 19))] [(.ref (A 19)), (.ref (A 19))])) _
      refine Jvm.RoadKit.acmp (g := (mkF m 333 #[.val (.int p1), .val (.ref b1), .val (.ref b68), .val (.int (19 : Int32)), .val (.ref (A 19)), .val (.ref (A 19))] [(.ref (A 19)), (.ref (A 19))])) X328 hx rfl rfl rfl (pc0 := 333) (pc' := 338) (same := true) rfl (hb hby at_333) rfl (decide_eq_true rfl) (by decide) (by decide) ?_
      show Steps p.tables e below (T328.setTop (mkF m 338 #[.val (.int p1), .val (.ref b1), .val (.ref b68), .val (.int (19 : Int32)), .val (.ref (A 19)), .val (.ref (A 19))] [])) _
      refine XS.aload X328.here hx rfl (hb hby at_338) rfl rfl ?_
      show Steps p.tables e below (T328.setTop (mkF m 340 #[.val (.int p1), .val (.ref b1), .val (.ref b68), .val (.int (19 : Int32)), .val (.ref (A 19)), .val (.ref (A 19))] [(.ref (A 19))])) _
      refine st330 _ ?_
      show Steps p.tables e below (T330.setTop (mkF m 343 #[.val (.int p1), .val (.ref b1), .val (.ref b68), .val (.int (19 : Int32)), .val (.ref (A 19)), .val (.ref (A 19))] [(.ref (A 19))])) _
      refine XS.aload X330.here hx rfl (hb hby at_343) rfl rfl ?_
      show Steps p.tables e below (T330.setTop (mkF m 345 #[.val (.int p1), .val (.ref b1), .val (.ref b68), .val (.int (19 : Int32)), .val (.ref (A 19)), .val (.ref (A 19))] [(.ref (A 19)), (.ref (A 19))])) _
      refine Jvm.RoadKit.acmp (g := (mkF m 345 #[.val (.int p1), .val (.ref b1), .val (.ref b68), .val (.int (19 : Int32)), .val (.ref (A 19)), .val (.ref (A 19))] [(.ref (A 19)), (.ref (A 19))])) X330 hx rfl rfl rfl (pc0 := 345) (pc' := 348) (same := true) rfl (hb hby at_345) rfl (decide_eq_true rfl) (by decide) (by decide) ?_
      show Steps p.tables e below (T330.setTop (mkF m 348 #[.val (.int p1), .val (.ref b1), .val (.ref b68), .val (.int (19 : Int32)), .val (.ref (A 19)), .val (.ref (A 19))] [])) _
      refine XS.iconst X330.here hx rfl (hb hby at_348) ?_
      show Steps p.tables e below (T330.setTop (mkF m 349 #[.val (.int p1), .val (.ref b1), .val (.ref b68), .val (.int (19 : Int32)), .val (.ref (A 19)), .val (.ref (A 19))] [(.int (1 : Int32))])) _
      refine XS.goto X330.here hx rfl (pc0 := 349) (pc' := 353) rfl (hb hby at_349) (by decide) (by decide) ?_
      show Steps p.tables e below (T330.setTop (mkF m 353 #[.val (.int p1), .val (.ref b1), .val (.ref b68), .val (.int (19 : Int32)), .val (.ref (A 19)), .val (.ref (A 19))] [(.int (1 : Int32))])) _
      exact retN X330 hx (t := .boolean) Bd.returns (by simp) (hb hby at_353) hr
    · show LQ n0 _ T330.heap _
      exact ⟨rfl, N330, trivial⟩
  | 20, _, hk136 =>
    have fx331 : Arv Z h134 b1 k1 (.object "com/example/dongl/dongl/core/ErrorCode") (22 : Int32) [(.ref (A 0)), (.ref (A 1)), (.ref (A 2)), (.ref (A 3)), (.ref (A 4)), (.ref (A 5)), (.ref (A 6)), (.ref (A 7)), (.ref (A 8)), (.ref (A 9)), (.ref (A 10)), (.ref (A 11)), (.ref (A 12)), (.ref (A 13)), (.ref (A 14)), (.ref (A 15)), (.ref (A 16)), (.ref (A 17)), (.ref (A 18)), (.ref (A 19)), (.ref (A 20)), (.ref (A 21))] .null := (((((((((((((((((((((((V67.ext E68).other W71 (Nat.ne_of_lt lt_b1_b68)).other W74 (Nat.ne_of_lt lt_b1_b68)).other W77 (Nat.ne_of_lt lt_b1_b68)).other W80 (Nat.ne_of_lt lt_b1_b68)).other W83 (Nat.ne_of_lt lt_b1_b68)).other W86 (Nat.ne_of_lt lt_b1_b68)).other W89 (Nat.ne_of_lt lt_b1_b68)).other W92 (Nat.ne_of_lt lt_b1_b68)).other W95 (Nat.ne_of_lt lt_b1_b68)).other W98 (Nat.ne_of_lt lt_b1_b68)).other W101 (Nat.ne_of_lt lt_b1_b68)).other W104 (Nat.ne_of_lt lt_b1_b68)).other W107 (Nat.ne_of_lt lt_b1_b68)).other W110 (Nat.ne_of_lt lt_b1_b68)).other W113 (Nat.ne_of_lt lt_b1_b68)).other W116 (Nat.ne_of_lt lt_b1_b68)).other W119 (Nat.ne_of_lt lt_b1_b68)).other W122 (Nat.ne_of_lt lt_b1_b68)).other W125 (Nat.ne_of_lt lt_b1_b68)).other W128 (Nat.ne_of_lt lt_b1_b68)).other W131 (Nat.ne_of_lt lt_b1_b68)).other W134 (Nat.ne_of_lt lt_b1_b68))
    obtain ⟨cl332, Ar332, q332, Sz332, Nn332, Hh332, Gg332⟩ := (id fx331)
    have hin332 : ¬ ((20 : Int32) < 0 ∨ cl332.slots.size ≤ ((20 : Int32)).toNatClampNeg) := inb_of Sz332 ⟨by decide, by decide⟩
    have hat332 : cl332.slots[((20 : Int32)).toNatClampNeg]? = some (.ref (A 20)) := Has.at Hh332 hin332 rfl
    obtain ⟨_, _, ⟨T333, L333, k333, n333⟩, -, X333, ⟨Lc333, hQ333, l333, y333, z333⟩, st333⟩ := Jvm.LawKit.callS X134 hx (y := own_m0) hown (mvT hZ (hw _ (List.mem_of_getElem? (i := 49) rfl))) (mvT hZ (hw _ (List.mem_of_getElem? (i := 50) rfl))) (mvT hZ (hw _ (List.mem_of_getElem? (i := 51) rfl))) (mvT hZ (hw _ (List.mem_of_getElem? (i := 52) rfl))) (by decide) (backOf (W := 0) (rm9 l Z a0 hw [] h134 n0 p1 A K EN OL134) hZ (hw _ (List.mem_of_getElem? (i := 52) rfl)) (hw _ (List.mem_of_getElem? (i := 51) rfl)) (by decide) (by decide)) (g := (mkF m 323 #[.val (.int p1), .val (.ref b1), .val (.ref b68), .val (.int (20 : Int32)), .val (.ref (A 20)), .unset] [(.ref (A 20))])) rfl (by rw [hml]; rfl) (argsL := [(.ref (A 20))]) (rest := []) (lenOf own_pd1 rfl) rfl (by show 2 * 0 + _ ≤ _; exact Nat.le_of_eq rfl) (hb hby at_323) (fun _ _ => ⟨rfl, e134, (by decide : 2 + 0 ≤ _), (by decide : 44 + 0 ≤ _)⟩)
    dsimp only [Pt.U, Pt.locs, Pt.cells, Pt.slots] at X333 l333 y333 z333 st333 hQ333
    replace X333 := own_sub X333 l333 y333 z333
    obtain ⟨rfl, N333q, e333⟩ := hQ333
    have N333 := Fr.app NF134 N333q
    obtain ⟨cl334, Ar334, q334, Sz334, Nn334, Hh334, Gg334⟩ := (id V134)
    have hin334 : ¬ ((20 : Int32) < 0 ∨ cl334.slots.size ≤ ((20 : Int32)).toNatClampNeg) := inb_of Sz334 ⟨by decide, by decide⟩
    have hat334 : cl334.slots[((20 : Int32)).toNatClampNeg]? = some (.ref (A 20)) := Has.at Hh334 hin334 rfl
    obtain ⟨_, _, ⟨T335, L335, k335, n335⟩, -, X335, ⟨Lc335, hQ335, l335, y335, z335⟩, st335⟩ := Jvm.LawKit.callS X333 hx (y := own_m0) hown (mvT hZ (hw _ (List.mem_of_getElem? (i := 49) rfl))) (mvT hZ (hw _ (List.mem_of_getElem? (i := 50) rfl))) (mvT hZ (hw _ (List.mem_of_getElem? (i := 51) rfl))) (mvT hZ (hw _ (List.mem_of_getElem? (i := 52) rfl))) (by decide) (backOf (W := 0) (rm9 l Z a0 hw [] h134 n0 p1 A K EN OL134) hZ (hw _ (List.mem_of_getElem? (i := 52) rfl)) (hw _ (List.mem_of_getElem? (i := 51) rfl)) (by decide) (by decide)) (g := (mkF m 340 #[.val (.int p1), .val (.ref b1), .val (.ref b68), .val (.int (20 : Int32)), .val (.ref (A 20)), .val (.ref (A 20))] [(.ref (A 20))])) rfl (by rw [hml]; rfl) (argsL := [(.ref (A 20))]) (rest := []) (lenOf own_pd1 rfl) rfl (by show 2 * 0 + _ ≤ _; exact Nat.le_of_eq rfl) (hb hby at_340) (fun _ _ => ⟨rfl, e333, (by decide : 2 + 0 ≤ _), (by decide : 44 + 0 ≤ _)⟩)
    dsimp only [Pt.U, Pt.locs, Pt.cells, Pt.slots] at X335 l335 y335 z335 st335 hQ335
    replace X335 := own_sub X335 l335 y335 z335
    obtain ⟨rfl, N335q, e335⟩ := hQ335
    have N335 := Fr.app N333 N335q
    obtain ⟨fs, hr, hrun, hended, hW, hsame⟩ := X335.leave (v := some (.int (1 : Int32))) (fun h => by rw [Bd.returns] at h; cases h)
    refine ⟨_, _, pre135 _ ?_, hrun, hended, _, _, rfl, ?_, ⟨_, rfl⟩, hW, hsame.mono (by decide) (by decide)⟩
    · show Steps p.tables e below (T134.setTop (mkF m 315 #[.val (.int p1), .val (.ref b1), .val (.ref b68), .unset, .unset, .unset] [(.int ((p1 &&& (2147483647 : Int32)) % (22 : Int32)))])) _
      rw [hk136]
      show Steps p.tables e below (T134.setTop (mkF m 315 #[.val (.int p1), .val (.ref b1), .val (.ref b68), .unset, .unset, .unset] [(.int (20 : Int32))])) _
      refine XS.istoreN X134.here hx rfl (hb hby at_315) rfl (l' := #[.val (.int p1), .val (.ref b1), .val (.ref b68), .val (.int (20 : Int32)), .unset, .unset]) rfl ?_
      show Steps p.tables e below (T134.setTop (mkF m 316 #[.val (.int p1), .val (.ref b1), .val (.ref b68), .val (.int (20 : Int32)), .unset, .unset] [])) _
      refine XS.aloadN X134.here hx rfl (hb hby at_316) rfl rfl ?_
      show Steps p.tables e below (T134.setTop (mkF m 317 #[.val (.int p1), .val (.ref b1), .val (.ref b68), .val (.int (20 : Int32)), .unset, .unset] [(.ref b1)])) _
      refine XS.iloadN X134.here hx rfl (hb hby at_317) rfl ?_
      show Steps p.tables e below (T134.setTop (mkF m 318 #[.val (.int p1), .val (.ref b1), .val (.ref b68), .val (.int (20 : Int32)), .unset, .unset] [(.int (20 : Int32)), (.ref b1)])) _
      refine X134.aaload hx (j := (20 : Int32)) (v := (.ref (A 20))) (by rw [e134]; exact Ar332.1) (State.isArrayOf_alike hZ.alike Ar332.2.1) rfl Ar332.2.2 hin332 hat332 (g := (mkF m 318 #[.val (.int p1), .val (.ref b1), .val (.ref b68), .val (.int (20 : Int32)), .unset, .unset] [(.int (20 : Int32)), (.ref b1)])) rfl rfl (hb hby at_318) _ ?_
      show Steps p.tables e below (T134.setTop (mkF m 319 #[.val (.int p1), .val (.ref b1), .val (.ref b68), .val (.int (20 : Int32)), .unset, .unset] [(.ref (A 20))])) _
      refine XS.astore X134.here hx rfl (hb hby at_319) rfl rfl (l' := #[.val (.int p1), .val (.ref b1), .val (.ref b68), .val (.int (20 : Int32)), .val (.ref (A 20)), .unset]) rfl ?_
      show Steps p.tables e below (T134.setTop (mkF m 321 #[.val (.int p1), .val (.ref b1), .val (.ref b68), .val (.int (20 : Int32)), .val (.ref (A 20)), .unset] [])) _
      refine XS.aload X134.here hx rfl (hb hby at_321) rfl rfl ?_
      show Steps p.tables e below (T134.setTop (mkF m 323 #[.val (.int p1), .val (.ref b1), .val (.ref b68), .val (.int (20 : Int32)), .val (.ref (A 20)), .unset] [(.ref (A 20))])) _
      refine st333 _ ?_
      show Steps p.tables e below (T333.setTop (mkF m 326 #[.val (.int p1), .val (.ref b1), .val (.ref b68), .val (.int (20 : Int32)), .val (.ref (A 20)), .unset] [(.ref (A 20))])) _
      refine XS.astore X333.here hx rfl (hb hby at_326) rfl rfl (l' := #[.val (.int p1), .val (.ref b1), .val (.ref b68), .val (.int (20 : Int32)), .val (.ref (A 20)), .val (.ref (A 20))]) rfl ?_
      show Steps p.tables e below (T333.setTop (mkF m 328 #[.val (.int p1), .val (.ref b1), .val (.ref b68), .val (.int (20 : Int32)), .val (.ref (A 20)), .val (.ref (A 20))] [])) _
      refine XS.aload X333.here hx rfl (hb hby at_328) rfl rfl ?_
      show Steps p.tables e below (T333.setTop (mkF m 330 #[.val (.int p1), .val (.ref b1), .val (.ref b68), .val (.int (20 : Int32)), .val (.ref (A 20)), .val (.ref (A 20))] [(.ref (A 20))])) _
      refine XS.aloadN X333.here hx rfl (hb hby at_330) rfl rfl ?_
      show Steps p.tables e below (T333.setTop (mkF m 331 #[.val (.int p1), .val (.ref b1), .val (.ref b68), .val (.int (20 : Int32)), .val (.ref (A 20)), .val (.ref (A 20))] [(.ref b68), (.ref (A 20))])) _
      refine XS.iloadN X333.here hx rfl (hb hby at_331) rfl ?_
      show Steps p.tables e below (T333.setTop (mkF m 332 #[.val (.int p1), .val (.ref b1), .val (.ref b68), .val (.int (20 : Int32)), .val (.ref (A 20)), .val (.ref (A 20))] [(.int (20 : Int32)), (.ref b68), (.ref (A 20))])) _
      refine X333.aaload hx (j := (20 : Int32)) (v := (.ref (A 20))) (by rw [e333]; exact Ar334.1) (State.isArrayOf_alike hZ.alike Ar334.2.1) rfl Ar334.2.2 hin334 hat334 (g := (mkF m 332 #[.val (.int p1), .val (.ref b1), .val (.ref b68), .val (.int (20 : Int32)), .val (.ref (A 20)), .val (.ref (A 20))] [(.int (20 : Int32)), (.ref b68), (.ref (A 20))])) rfl rfl (hb hby at_332) _ ?_
      show Steps p.tables e below (T333.setTop (mkF m 333 #[.val (.int p1), .val (.ref b1), .val (.ref b68), .val (.int (20 : Int32)), .val (.ref (A 20)), .val (.ref (A 20))] [(.ref (A 20)), (.ref (A 20))])) _
      refine Jvm.RoadKit.acmp (g := (mkF m 333 #[.val (.int p1), .val (.ref b1), .val (.ref b68), .val (.int (20 : Int32)), .val (.ref (A 20)), .val (.ref (A 20))] [(.ref (A 20)), (.ref (A 20))])) X333 hx rfl rfl rfl (pc0 := 333) (pc' := 338) (same := true) rfl (hb hby at_333) rfl (decide_eq_true rfl) (by decide) (by decide) ?_
      show Steps p.tables e below (T333.setTop (mkF m 338 #[.val (.int p1), .val (.ref b1), .val (.ref b68), .val (.int (20 : Int32)), .val (.ref (A 20)), .val (.ref (A 20))] [])) _
      refine XS.aload X333.here hx rfl (hb hby at_338) rfl rfl ?_
      show Steps p.tables e below (T333.setTop (mkF m 340 #[.val (.int p1), .val (.ref b1), .val (.ref b68), .val (.int (20 : Int32)), .val (.ref (A 20)), .val (.ref (A 20))] [(.ref (A 20))])) _
      refine st335 _ ?_
      show Steps p.tables e below (T335.setTop (mkF m 343 #[.val (.int p1), .val (.ref b1), .val (.ref b68), .val (.int (20 : Int32)), .val (.ref (A 20)), .val (.ref (A 20))] [(.ref (A 20))])) _
      refine XS.aload X335.here hx rfl (hb hby at_343) rfl rfl ?_
      show Steps p.tables e below (T335.setTop (mkF m 345 #[.val (.int p1), .val (.ref b1), .val (.ref b68), .val (.int (20 : Int32)), .val (.ref (A 20)), .val (.ref (A 20))] [(.ref (A 20)), (.ref (A 20))])) _
      refine Jvm.RoadKit.acmp (g := (mkF m 345 #[.val (.int p1), .val (.ref b1), .val (.ref b68), .val (.int (20 : Int32)), .val (.ref (A 20)), .val (.ref (A 20))] [(.ref (A 20)), (.ref (A 20))])) X335 hx rfl rfl rfl (pc0 := 345) (pc' := 348) (same := true) rfl (hb hby at_345) rfl (decide_eq_true rfl) (by decide) (by decide) ?_
      show Steps p.tables e below (T335.setTop (mkF m 348 #[.val (.int p1), .val (.ref b1), .val (.ref b68), .val (.int (20 : Int32)), .val (.ref (A 20)), .val (.ref (A 20))] [])) _
      refine XS.iconst X335.here hx rfl (hb hby at_348) ?_
      show Steps p.tables e below (T335.setTop (mkF m 349 #[.val (.int p1), .val (.ref b1), .val (.ref b68), .val (.int (20 : Int32)), .val (.ref (A 20)), .val (.ref (A 20))] [(.int (1 : Int32))])) _
      refine XS.goto X335.here hx rfl (pc0 := 349) (pc' := 353) rfl (hb hby at_349) (by decide) (by decide) ?_
      show Steps p.tables e below (T335.setTop (mkF m 353 #[.val (.int p1), .val (.ref b1), .val (.ref b68), .val (.int (20 : Int32)), .val (.ref (A 20)), .val (.ref (A 20))] [(.int (1 : Int32))])) _
      exact retN X335 hx (t := .boolean) Bd.returns (by simp) (hb hby at_353) hr
    · show LQ n0 _ T335.heap _
      exact ⟨rfl, N335, trivial⟩
  | 21, _, hk136 =>
    have fx336 : Arv Z h134 b1 k1 (.object "com/example/dongl/dongl/core/ErrorCode") (22 : Int32) [(.ref (A 0)), (.ref (A 1)), (.ref (A 2)), (.ref (A 3)), (.ref (A 4)), (.ref (A 5)), (.ref (A 6)), (.ref (A 7)), (.ref (A 8)), (.ref (A 9)), (.ref (A 10)), (.ref (A 11)), (.ref (A 12)), (.ref (A 13)), (.ref (A 14)), (.ref (A 15)), (.ref (A 16)), (.ref (A 17)), (.ref (A 18)), (.ref (A 19)), (.ref (A 20)), (.ref (A 21))] .null := (((((((((((((((((((((((V67.ext E68).other W71 (Nat.ne_of_lt lt_b1_b68)).other W74 (Nat.ne_of_lt lt_b1_b68)).other W77 (Nat.ne_of_lt lt_b1_b68)).other W80 (Nat.ne_of_lt lt_b1_b68)).other W83 (Nat.ne_of_lt lt_b1_b68)).other W86 (Nat.ne_of_lt lt_b1_b68)).other W89 (Nat.ne_of_lt lt_b1_b68)).other W92 (Nat.ne_of_lt lt_b1_b68)).other W95 (Nat.ne_of_lt lt_b1_b68)).other W98 (Nat.ne_of_lt lt_b1_b68)).other W101 (Nat.ne_of_lt lt_b1_b68)).other W104 (Nat.ne_of_lt lt_b1_b68)).other W107 (Nat.ne_of_lt lt_b1_b68)).other W110 (Nat.ne_of_lt lt_b1_b68)).other W113 (Nat.ne_of_lt lt_b1_b68)).other W116 (Nat.ne_of_lt lt_b1_b68)).other W119 (Nat.ne_of_lt lt_b1_b68)).other W122 (Nat.ne_of_lt lt_b1_b68)).other W125 (Nat.ne_of_lt lt_b1_b68)).other W128 (Nat.ne_of_lt lt_b1_b68)).other W131 (Nat.ne_of_lt lt_b1_b68)).other W134 (Nat.ne_of_lt lt_b1_b68))
    obtain ⟨cl337, Ar337, q337, Sz337, Nn337, Hh337, Gg337⟩ := (id fx336)
    have hin337 : ¬ ((21 : Int32) < 0 ∨ cl337.slots.size ≤ ((21 : Int32)).toNatClampNeg) := inb_of Sz337 ⟨by decide, by decide⟩
    have hat337 : cl337.slots[((21 : Int32)).toNatClampNeg]? = some (.ref (A 21)) := Has.at Hh337 hin337 rfl
    obtain ⟨_, _, ⟨T342, L342, k342, n342⟩, -, X342, ⟨Lc342, hQ342, l342, y342, z342⟩, st342⟩ := Jvm.LawKit.callS X134 hx (y := own_m0) hown (mvT hZ (hw _ (List.mem_of_getElem? (i := 49) rfl))) (mvT hZ (hw _ (List.mem_of_getElem? (i := 50) rfl))) (mvT hZ (hw _ (List.mem_of_getElem? (i := 51) rfl))) (mvT hZ (hw _ (List.mem_of_getElem? (i := 52) rfl))) (by decide) (backOf (W := 0) (rm43 l Z a0 hw [] h134 n0 p1 A K EN OL134) hZ (hw _ (List.mem_of_getElem? (i := 52) rfl)) (hw _ (List.mem_of_getElem? (i := 51) rfl)) (by decide) (by decide)) (g := (mkF m 323 #[.val (.int p1), .val (.ref b1), .val (.ref b68), .val (.int (21 : Int32)), .val (.ref (A 21)), .unset] [(.ref (A 21))])) rfl (by rw [hml]; rfl) (argsL := [(.ref (A 21))]) (rest := []) (lenOf own_pd1 rfl) rfl (by show 2 * 0 + _ ≤ _; exact Nat.le_of_eq rfl) (hb hby at_323) (fun _ _ => ⟨rfl, e134, (by decide : 2 + 0 ≤ _), (by decide : 44 + 0 ≤ _)⟩)
    dsimp only [Pt.U, Pt.locs, Pt.cells, Pt.slots] at X342 l342 y342 z342 st342 hQ342
    replace X342 := own_sub X342 l342 y342 z342
    obtain ⟨rfl, N342q, e342⟩ := hQ342
    have N342 := Fr.app NF134 N342q
    obtain ⟨cl343, Ar343, q343, Sz343, Nn343, Hh343, Gg343⟩ := (id V134)
    have hin343 : ¬ ((21 : Int32) < 0 ∨ cl343.slots.size ≤ ((21 : Int32)).toNatClampNeg) := inb_of Sz343 ⟨by decide, by decide⟩
    have hat343 : cl343.slots[((21 : Int32)).toNatClampNeg]? = some (.ref (A 21)) := Has.at Hh343 hin343 rfl
    obtain ⟨_, _, ⟨T344, L344, k344, n344⟩, -, X344, ⟨Lc344, hQ344, l344, y344, z344⟩, st344⟩ := Jvm.LawKit.callS X342 hx (y := own_m0) hown (mvT hZ (hw _ (List.mem_of_getElem? (i := 49) rfl))) (mvT hZ (hw _ (List.mem_of_getElem? (i := 50) rfl))) (mvT hZ (hw _ (List.mem_of_getElem? (i := 51) rfl))) (mvT hZ (hw _ (List.mem_of_getElem? (i := 52) rfl))) (by decide) (backOf (W := 0) (rm43 l Z a0 hw [] h134 n0 p1 A K EN OL134) hZ (hw _ (List.mem_of_getElem? (i := 52) rfl)) (hw _ (List.mem_of_getElem? (i := 51) rfl)) (by decide) (by decide)) (g := (mkF m 340 #[.val (.int p1), .val (.ref b1), .val (.ref b68), .val (.int (21 : Int32)), .val (.ref (A 21)), .val (.ref (A 21))] [(.ref (A 21))])) rfl (by rw [hml]; rfl) (argsL := [(.ref (A 21))]) (rest := []) (lenOf own_pd1 rfl) rfl (by show 2 * 0 + _ ≤ _; exact Nat.le_of_eq rfl) (hb hby at_340) (fun _ _ => ⟨rfl, e342, (by decide : 2 + 0 ≤ _), (by decide : 44 + 0 ≤ _)⟩)
    dsimp only [Pt.U, Pt.locs, Pt.cells, Pt.slots] at X344 l344 y344 z344 st344 hQ344
    replace X344 := own_sub X344 l344 y344 z344
    obtain ⟨rfl, N344q, e344⟩ := hQ344
    have N344 := Fr.app N342 N344q
    obtain ⟨fs, hr, hrun, hended, hW, hsame⟩ := X344.leave (v := some (.int (1 : Int32))) (fun h => by rw [Bd.returns] at h; cases h)
    refine ⟨_, _, pre135 _ ?_, hrun, hended, _, _, rfl, ?_, ⟨_, rfl⟩, hW, hsame.mono (by decide) (by decide)⟩
    · show Steps p.tables e below (T134.setTop (mkF m 315 #[.val (.int p1), .val (.ref b1), .val (.ref b68), .unset, .unset, .unset] [(.int ((p1 &&& (2147483647 : Int32)) % (22 : Int32)))])) _
      rw [hk136]
      show Steps p.tables e below (T134.setTop (mkF m 315 #[.val (.int p1), .val (.ref b1), .val (.ref b68), .unset, .unset, .unset] [(.int (21 : Int32))])) _
      refine XS.istoreN X134.here hx rfl (hb hby at_315) rfl (l' := #[.val (.int p1), .val (.ref b1), .val (.ref b68), .val (.int (21 : Int32)), .unset, .unset]) rfl ?_
      show Steps p.tables e below (T134.setTop (mkF m 316 #[.val (.int p1), .val (.ref b1), .val (.ref b68), .val (.int (21 : Int32)), .unset, .unset] [])) _
      refine XS.aloadN X134.here hx rfl (hb hby at_316) rfl rfl ?_
      show Steps p.tables e below (T134.setTop (mkF m 317 #[.val (.int p1), .val (.ref b1), .val (.ref b68), .val (.int (21 : Int32)), .unset, .unset] [(.ref b1)])) _
      refine XS.iloadN X134.here hx rfl (hb hby at_317) rfl ?_
      show Steps p.tables e below (T134.setTop (mkF m 318 #[.val (.int p1), .val (.ref b1), .val (.ref b68), .val (.int (21 : Int32)), .unset, .unset] [(.int (21 : Int32)), (.ref b1)])) _
      refine X134.aaload hx (j := (21 : Int32)) (v := (.ref (A 21))) (by rw [e134]; exact Ar337.1) (State.isArrayOf_alike hZ.alike Ar337.2.1) rfl Ar337.2.2 hin337 hat337 (g := (mkF m 318 #[.val (.int p1), .val (.ref b1), .val (.ref b68), .val (.int (21 : Int32)), .unset, .unset] [(.int (21 : Int32)), (.ref b1)])) rfl rfl (hb hby at_318) _ ?_
      show Steps p.tables e below (T134.setTop (mkF m 319 #[.val (.int p1), .val (.ref b1), .val (.ref b68), .val (.int (21 : Int32)), .unset, .unset] [(.ref (A 21))])) _
      refine XS.astore X134.here hx rfl (hb hby at_319) rfl rfl (l' := #[.val (.int p1), .val (.ref b1), .val (.ref b68), .val (.int (21 : Int32)), .val (.ref (A 21)), .unset]) rfl ?_
      show Steps p.tables e below (T134.setTop (mkF m 321 #[.val (.int p1), .val (.ref b1), .val (.ref b68), .val (.int (21 : Int32)), .val (.ref (A 21)), .unset] [])) _
      refine XS.aload X134.here hx rfl (hb hby at_321) rfl rfl ?_
      show Steps p.tables e below (T134.setTop (mkF m 323 #[.val (.int p1), .val (.ref b1), .val (.ref b68), .val (.int (21 : Int32)), .val (.ref (A 21)), .unset] [(.ref (A 21))])) _
      refine st342 _ ?_
      show Steps p.tables e below (T342.setTop (mkF m 326 #[.val (.int p1), .val (.ref b1), .val (.ref b68), .val (.int (21 : Int32)), .val (.ref (A 21)), .unset] [(.ref (A 21))])) _
      refine XS.astore X342.here hx rfl (hb hby at_326) rfl rfl (l' := #[.val (.int p1), .val (.ref b1), .val (.ref b68), .val (.int (21 : Int32)), .val (.ref (A 21)), .val (.ref (A 21))]) rfl ?_
      show Steps p.tables e below (T342.setTop (mkF m 328 #[.val (.int p1), .val (.ref b1), .val (.ref b68), .val (.int (21 : Int32)), .val (.ref (A 21)), .val (.ref (A 21))] [])) _
      refine XS.aload X342.here hx rfl (hb hby at_328) rfl rfl ?_
      show Steps p.tables e below (T342.setTop (mkF m 330 #[.val (.int p1), .val (.ref b1), .val (.ref b68), .val (.int (21 : Int32)), .val (.ref (A 21)), .val (.ref (A 21))] [(.ref (A 21))])) _
      refine XS.aloadN X342.here hx rfl (hb hby at_330) rfl rfl ?_
      show Steps p.tables e below (T342.setTop (mkF m 331 #[.val (.int p1), .val (.ref b1), .val (.ref b68), .val (.int (21 : Int32)), .val (.ref (A 21)), .val (.ref (A 21))] [(.ref b68), (.ref (A 21))])) _
      refine XS.iloadN X342.here hx rfl (hb hby at_331) rfl ?_
      show Steps p.tables e below (T342.setTop (mkF m 332 #[.val (.int p1), .val (.ref b1), .val (.ref b68), .val (.int (21 : Int32)), .val (.ref (A 21)), .val (.ref (A 21))] [(.int (21 : Int32)), (.ref b68), (.ref (A 21))])) _
      refine X342.aaload hx (j := (21 : Int32)) (v := (.ref (A 21))) (by rw [e342]; exact Ar343.1) (State.isArrayOf_alike hZ.alike Ar343.2.1) rfl Ar343.2.2 hin343 hat343 (g := (mkF m 332 #[.val (.int p1), .val (.ref b1), .val (.ref b68), .val (.int (21 : Int32)), .val (.ref (A 21)), .val (.ref (A 21))] [(.int (21 : Int32)), (.ref b68), (.ref (A 21))])) rfl rfl (hb hby at_332) _ ?_
      show Steps p.tables e below (T342.setTop (mkF m 333 #[.val (.int p1), .val (.ref b1), .val (.ref b68), .val (.int (21 : Int32)), .val (.ref (A 21)), .val (.ref (A 21))] [(.ref (A 21)), (.ref (A 21))])) _
      refine Jvm.RoadKit.acmp (g := (mkF m 333 #[.val (.int p1), .val (.ref b1), .val (.ref b68), .val (.int (21 : Int32)), .val (.ref (A 21)), .val (.ref (A 21))] [(.ref (A 21)), (.ref (A 21))])) X342 hx rfl rfl rfl (pc0 := 333) (pc' := 338) (same := true) rfl (hb hby at_333) rfl (decide_eq_true rfl) (by decide) (by decide) ?_
      show Steps p.tables e below (T342.setTop (mkF m 338 #[.val (.int p1), .val (.ref b1), .val (.ref b68), .val (.int (21 : Int32)), .val (.ref (A 21)), .val (.ref (A 21))] [])) _
      refine XS.aload X342.here hx rfl (hb hby at_338) rfl rfl ?_
      show Steps p.tables e below (T342.setTop (mkF m 340 #[.val (.int p1), .val (.ref b1), .val (.ref b68), .val (.int (21 : Int32)), .val (.ref (A 21)), .val (.ref (A 21))] [(.ref (A 21))])) _
      refine st344 _ ?_
      show Steps p.tables e below (T344.setTop (mkF m 343 #[.val (.int p1), .val (.ref b1), .val (.ref b68), .val (.int (21 : Int32)), .val (.ref (A 21)), .val (.ref (A 21))] [(.ref (A 21))])) _
      refine XS.aload X344.here hx rfl (hb hby at_343) rfl rfl ?_
      show Steps p.tables e below (T344.setTop (mkF m 345 #[.val (.int p1), .val (.ref b1), .val (.ref b68), .val (.int (21 : Int32)), .val (.ref (A 21)), .val (.ref (A 21))] [(.ref (A 21)), (.ref (A 21))])) _
      refine Jvm.RoadKit.acmp (g := (mkF m 345 #[.val (.int p1), .val (.ref b1), .val (.ref b68), .val (.int (21 : Int32)), .val (.ref (A 21)), .val (.ref (A 21))] [(.ref (A 21)), (.ref (A 21))])) X344 hx rfl rfl rfl (pc0 := 345) (pc' := 348) (same := true) rfl (hb hby at_345) rfl (decide_eq_true rfl) (by decide) (by decide) ?_
      show Steps p.tables e below (T344.setTop (mkF m 348 #[.val (.int p1), .val (.ref b1), .val (.ref b68), .val (.int (21 : Int32)), .val (.ref (A 21)), .val (.ref (A 21))] [])) _
      refine XS.iconst X344.here hx rfl (hb hby at_348) ?_
      show Steps p.tables e below (T344.setTop (mkF m 349 #[.val (.int p1), .val (.ref b1), .val (.ref b68), .val (.int (21 : Int32)), .val (.ref (A 21)), .val (.ref (A 21))] [(.int (1 : Int32))])) _
      refine XS.goto X344.here hx rfl (pc0 := 349) (pc' := 353) rfl (hb hby at_349) (by decide) (by decide) ?_
      show Steps p.tables e below (T344.setTop (mkF m 353 #[.val (.int p1), .val (.ref b1), .val (.ref b68), .val (.int (21 : Int32)), .val (.ref (A 21)), .val (.ref (A 21))] [(.int (1 : Int32))])) _
      exact retN X344 hx (t := .boolean) Bd.returns (by simp) (hb hby at_353) hr
    · show LQ n0 _ T344.heap _
      exact ⟨rfl, N344, trivial⟩
  | kk + 22, h, _ => exact absurd h (by omega)
set_option maxRecDepth 65536 in
set_option maxHeartbeats 40000000 in
theorem comes_1 {Post : Tables → Env → Array Value → State → Outcome → State → Prop} (hpost : ∀ tb e args s v u, (limb_1_1.after args s (.returned v) u = true ∧ limb_1_2.after args s (.returned v) u = true ∧ True) → FrameEnd s (.returned v) u (Jvm.fieldLocs frame_1_writes args s ++ Jvm.arrayLocs frame_1_arrays args s ++ Jvm.staticLocs frame_1_statics s) 16 192 → Post tb e args s (.returned v) u) :
    ArmFor flags0 classFile x code maxLocals ret World_1 tables_1 room_1 Calls_1 rest_1 Pre_1 Post := by
  intro l hfl _ _ p e ha hc hk s m args below hf hA hF happ hP
  obtain ⟨hcalls, hrest, hpre⟩ := hP
  obtain ⟨-, -, -, hnamed, -, -, -, hat⟩ := (Spec.applies_iff hf).mp happ
  obtain ⟨hg, hn⟩ := and_e (Cond.before_iff.mp (show (Jvm.Cond.and given_1 narrow_1).before args s = true from hpre))
  obtain ⟨gA0, gB0⟩ := and_e hg
  obtain ⟨w0, rfl⟩ : ∃ w0 : Value, args = #[w0] := by
    have hs : args.size = 1 := by simpa [Cond.value, given_1] using gA0
    obtain ⟨L⟩ := args
    match L, hs with
    | [w0], _ => exact ⟨w0, rfl⟩
  have hw := fun d (hd : d ∈ tables_1) => atoms_spec (ws := Jvm.Cond.code x code maxLocals ret :: tables_1) hat d (List.mem_cons_of_mem _ hd)
  have hfit : Fit s := fun {y c} hc i hi => by
    obtain ⟨ha, rfl⟩ := Array.getElem?_eq_some_iff.mp hc
    have q := List.all_eq_true.mp ((Array.all_eq_true_iff_forall_mem.mp hF) _ (Array.getElem_mem ha)) i (List.mem_range.mpr hi)
    simpa [Array.getElem?_eq_getElem hi] using q
  obtain ⟨i0, ei0⟩ := is_v gB0
  obtain rfl : w0 = (.int i0) := Option.some.inj ei0
  obtain ⟨hx0, hr0⟩ := and_e hn
  obtain ⟨hx1, hr1⟩ := and_e hr0
  obtain ⟨hx2, hr2⟩ := and_e hr1
  obtain ⟨hx3, hr3⟩ := and_e hr2
  obtain ⟨hx4, hr4⟩ := and_e hr3
  obtain ⟨hx5, hr5⟩ := and_e hr4
  obtain ⟨hx6, hr6⟩ := and_e hr5
  obtain ⟨hx7, hr7⟩ := and_e hr6
  obtain ⟨hx8, hr8⟩ := and_e hr7
  obtain ⟨hx9, hr9⟩ := and_e hr8
  obtain ⟨hx10, hr10⟩ := and_e hr9
  obtain ⟨hx11, hr11⟩ := and_e hr10
  obtain ⟨hx12, hr12⟩ := and_e hr11
  obtain ⟨hx13, hr13⟩ := and_e hr12
  obtain ⟨hx14, hr14⟩ := and_e hr13
  obtain ⟨hx15, hr15⟩ := and_e hr14
  obtain ⟨hx16, hr16⟩ := and_e hr15
  obtain ⟨hx17, hr17⟩ := and_e hr16
  obtain ⟨hx18, hr18⟩ := and_e hr17
  obtain ⟨hx19, hr19⟩ := and_e hr18
  obtain ⟨hx20, hr20⟩ := and_e hr19
  obtain ⟨hx21, hr21⟩ := and_e hr20
  obtain ⟨hx22, hr22⟩ := and_e hr21
  obtain ⟨hx23, hr23⟩ := and_e hr22
  obtain ⟨hx24, hr24⟩ := and_e hr23
  obtain ⟨hx25, hr25⟩ := and_e hr24
  obtain ⟨hx26, hr26⟩ := and_e hr25
  obtain ⟨hx27, hr27⟩ := and_e hr26
  obtain ⟨hx28, hr28⟩ := and_e hr27
  obtain ⟨hx29, hr29⟩ := and_e hr28
  obtain ⟨hx30, hr30⟩ := and_e hr29
  obtain ⟨hx31, hr31⟩ := and_e hr30
  obtain ⟨hx32, hr32⟩ := and_e hr31
  obtain ⟨hx33, hr33⟩ := and_e hr32
  obtain ⟨hx34, hr34⟩ := and_e hr33
  obtain ⟨hx35, hr35⟩ := and_e hr34
  obtain ⟨hx36, hr36⟩ := and_e hr35
  obtain ⟨hx37, hr37⟩ := and_e hr36
  obtain ⟨hx38, hr38⟩ := and_e hr37
  obtain ⟨hx39, hr39⟩ := and_e hr38
  obtain ⟨hx40, hr40⟩ := and_e hr39
  obtain ⟨hx41, hr41⟩ := and_e hr40
  obtain ⟨hx42, hr42⟩ := and_e hr41
  obtain ⟨hx43, hr43⟩ := and_e hr42
  obtain ⟨hx44, hr44⟩ := and_e hr43
  obtain ⟨hx45, hr45⟩ := and_e hr44
  obtain ⟨hx46, hr46⟩ := and_e hr45
  obtain ⟨hx47, hr47⟩ := and_e hr46
  obtain ⟨hx48, hr48⟩ := and_e hr47
  obtain ⟨hx49, hr49⟩ := and_e hr48
  obtain ⟨hx50, hr50⟩ := and_e hr49
  obtain ⟨hx51, hr51⟩ := and_e hr50
  obtain ⟨hx52, hr52⟩ := and_e hr51
  obtain ⟨hx53, hr53⟩ := and_e hr52
  obtain ⟨hx54, hr54⟩ := and_e hr53
  obtain ⟨hx55, hr55⟩ := and_e hr54
  obtain ⟨hx56, hr56⟩ := and_e hr55
  obtain ⟨hx57, hr57⟩ := and_e hr56
  obtain ⟨hx58, hr58⟩ := and_e hr57
  obtain ⟨hx59, hr59⟩ := and_e hr58
  obtain ⟨hx60, hr60⟩ := and_e hr59
  obtain ⟨hx61, hr61⟩ := and_e hr60
  obtain ⟨hx62, hr62⟩ := and_e hr61
  obtain ⟨aS0, eS0⟩ := exa_v hx0
  obtain ⟨aS1, eS1⟩ := exa_v hx1
  obtain ⟨aS2, eS2⟩ := exa_v hx2
  obtain ⟨aS3, eS3⟩ := exa_v hx3
  obtain ⟨aS4, eS4⟩ := exa_v hx4
  obtain ⟨aS5, eS5⟩ := exa_v hx5
  obtain ⟨aS6, eS6⟩ := exa_v hx6
  obtain ⟨aS7, eS7⟩ := exa_v hx7
  obtain ⟨aS8, eS8⟩ := exa_v hx8
  obtain ⟨aS9, eS9⟩ := exa_v hx9
  obtain ⟨aS10, eS10⟩ := exa_v hx10
  obtain ⟨aS11, eS11⟩ := exa_v hx11
  obtain ⟨aS12, eS12⟩ := exa_v hx12
  obtain ⟨aS13, eS13⟩ := exa_v hx13
  obtain ⟨aS14, eS14⟩ := exa_v hx14
  obtain ⟨aS15, eS15⟩ := exa_v hx15
  obtain ⟨aS16, eS16⟩ := exa_v hx16
  obtain ⟨aS17, eS17⟩ := exa_v hx17
  obtain ⟨aS18, eS18⟩ := exa_v hx18
  obtain ⟨aS19, eS19⟩ := exa_v hx19
  obtain ⟨aS20, eS20⟩ := exa_v hx20
  obtain ⟨aS21, eS21⟩ := exa_v hx21
  obtain ⟨aS22, eS22⟩ := arr_v hx22
  obtain ⟨cS22, ArS22, szS22, lnS22⟩ := own_len eS22 hx22 hx23 (by decide)
  have EN : own_St s (fun n => [aS0, aS1, aS2, aS3, aS4, aS5, aS6, aS7, aS8, aS9, aS10, aS11, aS12, aS13, aS14, aS15, aS16, aS17, aS18, aS19, aS20, aS21, aS22].getD n 0) (fun n => [cS22.cls].getD n 0) := ⟨⟨Sta.start eS0 (Or.inr ⟨(hw _ (List.mem_of_getElem? (i := 3) rfl)), (hw _ (List.mem_of_getElem? (i := 4) rfl))⟩), Exa.start eS0 hx0, Sta.start eS1 (Or.inr ⟨(hw _ (List.mem_of_getElem? (i := 3) rfl)), (hw _ (List.mem_of_getElem? (i := 7) rfl))⟩), Exa.start eS1 hx1, Sta.start eS2 (Or.inr ⟨(hw _ (List.mem_of_getElem? (i := 3) rfl)), (hw _ (List.mem_of_getElem? (i := 9) rfl))⟩), Exa.start eS2 hx2, Sta.start eS3 (Or.inr ⟨(hw _ (List.mem_of_getElem? (i := 3) rfl)), (hw _ (List.mem_of_getElem? (i := 11) rfl))⟩), Exa.start eS3 hx3, trivial⟩, ⟨Sta.start eS4 (Or.inr ⟨(hw _ (List.mem_of_getElem? (i := 3) rfl)), (hw _ (List.mem_of_getElem? (i := 13) rfl))⟩), Exa.start eS4 hx4, Sta.start eS5 (Or.inr ⟨(hw _ (List.mem_of_getElem? (i := 3) rfl)), (hw _ (List.mem_of_getElem? (i := 15) rfl))⟩), Exa.start eS5 hx5, Sta.start eS6 (Or.inr ⟨(hw _ (List.mem_of_getElem? (i := 3) rfl)), (hw _ (List.mem_of_getElem? (i := 17) rfl))⟩), Exa.start eS6 hx6, Sta.start eS7 (Or.inr ⟨(hw _ (List.mem_of_getElem? (i := 3) rfl)), (hw _ (List.mem_of_getElem? (i := 19) rfl))⟩), Exa.start eS7 hx7, trivial⟩, ⟨Sta.start eS8 (Or.inr ⟨(hw _ (List.mem_of_getElem? (i := 3) rfl)), (hw _ (List.mem_of_getElem? (i := 21) rfl))⟩), Exa.start eS8 hx8, Sta.start eS9 (Or.inr ⟨(hw _ (List.mem_of_getElem? (i := 3) rfl)), (hw _ (List.mem_of_getElem? (i := 23) rfl))⟩), Exa.start eS9 hx9, Sta.start eS10 (Or.inr ⟨(hw _ (List.mem_of_getElem? (i := 3) rfl)), (hw _ (List.mem_of_getElem? (i := 25) rfl))⟩), Exa.start eS10 hx10, Sta.start eS11 (Or.inr ⟨(hw _ (List.mem_of_getElem? (i := 3) rfl)), (hw _ (List.mem_of_getElem? (i := 27) rfl))⟩), Exa.start eS11 hx11, trivial⟩, ⟨Sta.start eS12 (Or.inr ⟨(hw _ (List.mem_of_getElem? (i := 3) rfl)), (hw _ (List.mem_of_getElem? (i := 29) rfl))⟩), Exa.start eS12 hx12, Sta.start eS13 (Or.inr ⟨(hw _ (List.mem_of_getElem? (i := 3) rfl)), (hw _ (List.mem_of_getElem? (i := 31) rfl))⟩), Exa.start eS13 hx13, Sta.start eS14 (Or.inr ⟨(hw _ (List.mem_of_getElem? (i := 3) rfl)), (hw _ (List.mem_of_getElem? (i := 33) rfl))⟩), Exa.start eS14 hx14, Sta.start eS15 (Or.inr ⟨(hw _ (List.mem_of_getElem? (i := 3) rfl)), (hw _ (List.mem_of_getElem? (i := 35) rfl))⟩), Exa.start eS15 hx15, trivial⟩, ⟨Sta.start eS16 (Or.inr ⟨(hw _ (List.mem_of_getElem? (i := 3) rfl)), (hw _ (List.mem_of_getElem? (i := 37) rfl))⟩), Exa.start eS16 hx16, Sta.start eS17 (Or.inr ⟨(hw _ (List.mem_of_getElem? (i := 3) rfl)), (hw _ (List.mem_of_getElem? (i := 39) rfl))⟩), Exa.start eS17 hx17, Sta.start eS18 (Or.inr ⟨(hw _ (List.mem_of_getElem? (i := 3) rfl)), (hw _ (List.mem_of_getElem? (i := 41) rfl))⟩), Exa.start eS18 hx18, Sta.start eS19 (Or.inr ⟨(hw _ (List.mem_of_getElem? (i := 3) rfl)), (hw _ (List.mem_of_getElem? (i := 43) rfl))⟩), Exa.start eS19 hx19, trivial⟩, ⟨Sta.start eS20 (Or.inr ⟨(hw _ (List.mem_of_getElem? (i := 3) rfl)), (hw _ (List.mem_of_getElem? (i := 45) rfl))⟩), Exa.start eS20 hx20, Sta.start eS21 (Or.inr ⟨(hw _ (List.mem_of_getElem? (i := 3) rfl)), (hw _ (List.mem_of_getElem? (i := 47) rfl))⟩), Exa.start eS21 hx21, Sta.start eS22 (Or.inr ⟨(hw _ (List.mem_of_getElem? (i := 54) rfl)), (hw _ (List.mem_of_getElem? (i := 55) rfl))⟩), Arv.start hfit ArS22 szS22 lnS22 (by decide) rfl ⟨own_elem eS22 ArS22 (own_eqv (Term.int_eval _) hx46), own_elem eS22 ArS22 (own_eqv (Term.int_eval _) hx47), own_elem eS22 ArS22 (own_eqv (Term.int_eval _) hx48), own_elem eS22 ArS22 (own_eqv (Term.int_eval _) hx49), own_elem eS22 ArS22 (own_eqv (Term.int_eval _) hx50), own_elem eS22 ArS22 (own_eqv (Term.int_eval _) hx51), own_elem eS22 ArS22 (own_eqv (Term.int_eval _) hx52), own_elem eS22 ArS22 (own_eqv (Term.int_eval _) hx53), own_elem eS22 ArS22 (own_eqv (Term.int_eval _) hx54), own_elem eS22 ArS22 (own_eqv (Term.int_eval _) hx55), own_elem eS22 ArS22 (own_eqv (Term.int_eval _) hx56), own_elem eS22 ArS22 (own_eqv (Term.int_eval _) hx57), own_elem eS22 ArS22 (own_eqv (Term.int_eval _) hx58), own_elem eS22 ArS22 (own_eqv (Term.int_eval _) hx59), own_elem eS22 ArS22 (own_eqv (Term.int_eval _) hx60), own_elem eS22 ArS22 (own_eqv (Term.int_eval _) hx61), own_elem eS22 ArS22 (own_eqv (Term.int_eval _) hx62), (own_all0 (fun _ => eS22) ArS22 szS22 lnS22 hr62 17 (by decide) (by decide)), (own_all0 (fun _ => eS22) ArS22 szS22 lnS22 hr62 18 (by decide) (by decide)), (own_all0 (fun _ => eS22) ArS22 szS22 lnS22 hr62 19 (by decide) (by decide)), (own_all0 (fun _ => eS22) ArS22 szS22 lnS22 hr62 20 (by decide) (by decide)), (own_all0 (fun _ => eS22) ArS22 szS22 lnS22 hr62 21 (by decide) (by decide)), trivial⟩, own_fld eS0 (own_eqv (Term.int_eval _) hx24), own_fld eS3 (own_eqv (Term.int_eval _) hx25), trivial⟩, ⟨own_fld eS20 (own_eqv (Term.int_eval _) hx26), own_fld eS7 (own_eqv (Term.int_eval _) hx27), own_fld eS8 (own_eqv (Term.int_eval _) hx28), own_fld eS2 (own_eqv (Term.int_eval _) hx29), own_fld eS11 (own_eqv (Term.int_eval _) hx30), own_fld eS19 (own_eqv (Term.int_eval _) hx31), own_fld eS10 (own_eqv (Term.int_eval _) hx32), own_fld eS1 (own_eqv (Term.int_eval _) hx33), trivial⟩, ⟨own_fld eS9 (own_eqv (Term.int_eval _) hx34), own_fld eS5 (own_eqv (Term.int_eval _) hx35), own_fld eS16 (own_eqv (Term.int_eval _) hx36), own_fld eS6 (own_eqv (Term.int_eval _) hx37), own_fld eS18 (own_eqv (Term.int_eval _) hx38), own_fld eS15 (own_eqv (Term.int_eval _) hx39), own_fld eS4 (own_eqv (Term.int_eval _) hx40), own_fld eS21 (own_eqv (Term.int_eval _) hx41), trivial⟩, ⟨own_fld eS14 (own_eqv (Term.int_eval _) hx42), own_fld eS12 (own_eqv (Term.int_eval _) hx43), own_fld eS13 (own_eqv (Term.int_eval _) hx44), own_fld eS17 (own_eqv (Term.int_eval _) hx45), trivial⟩, trivial⟩
  obtain ⟨n, o, h1, h2, h3, _, L, rfl, hQ, hq⟩ := rm0 l s _ hw tables_1 s.heap s.heap.size i0 (fun n => [aS0, aS1, aS2, aS3, aS4, aS5, aS6, aS7, aS8, aS9, aS10, aS11, aS12, aS13, aS14, aS15, aS16, aS17, aS18, aS19, aS20, aS21, aS22].getD n 0) (fun n => [cS22.cls].getD n 0) EN (Old.start s) p e ha hc hk s m _ below hf ((Spec.applies_iff_loose hf).mp happ).1 ⟨rfl, State.Warmed39.refl s, rfl⟩ trivial
  obtain ⟨rfl, N, -⟩ := hQ
  refine ⟨n, _, h1, h2, h3, hpost _ _ _ _ _ _ ⟨Cond.after_iff.mpr rfl, Cond.after_iff.mpr (eq_i res_at (Term.int_eval (1)) rfl), trivial⟩ ⟨hq.1, hq.2.1, (hq.2.2.sift fun y hy => Or.inr (N y hy)).mono (by decide) (by decide)⟩⟩
theorem main_1_1 : Claimed_1_1 := comes_1 fun _ _ _ _ _ _ h hF => ⟨h.1, hF⟩
theorem main_1_2 : Claimed_1_2 := comes_1 fun _ _ _ _ _ _ h hF => ⟨h.2.1, hF⟩
end Jvm.Pilot.@@N@@
namespace Jvm.Pilot.@@N@@
open Jvm Jvm.ClassFile Sem Op Lib Jvm.Free Jvm.Stand Jvm.Pilot.@@N@@.Jvm.D
/-! MADE BY PROGRAM (witnessworld.py) out of the Statement's table words and the real class files: 15 classes; the members and pool entries that the words name. The judged class is class 1, her method 1. -/
namespace start1
open Jvm.ClassFile
def u (s : String) : CpInfo := .utf8 (stringToUtf16 s)
/-- a pool by its gaps: so many unusable entries, then the entry; so many at the end -/
def gap : Nat → List CpInfo → List CpInfo
  | 0, r => r
  | n + 1, r => .unusable :: gap n r
def poolList (es : List (Nat × CpInfo)) (last : Nat) : List CpInfo := es.foldr (fun e r => gap e.1 (e.2 :: r)) (gap last [])
def pool (es : List (Nat × CpInfo)) (last : Nat) : Array CpInfo := ⟨poolList es last⟩
def fileOf (pool : Array CpInfo) (this : Nat) (attrs : Array Attribute := #[]) (ms : Array MethodInfo := #[]) (fl : Nat := 33) (sup : Nat := 0) (ifs : Array Nat := #[]) (fds : Array FieldInfo := #[]) : ClassFile where
  minorVersion := 0
  majorVersion := 65
  constantPool := pool
  accessFlags := fl
  thisClass := this
  superClass := sup
  interfaces := ifs
  fields := fds
  methods := ms
  attributes := attrs
def plain (name : String) (sup : Option ClassId) : Class where
  name := name
  kind := .ordinary
  loader := none
  accessFlags := 33
  super := sup
  interfaces := #[]
  cf := none
  fields := #[]
  methods := #[]
  instanceTypes := #[]
  staticTypes := #[]
  resolved := #[]
  callSites := []
  init := .initialized
  statics := none
  mirror := none

def pool0 : Array CpInfo := pool [(5, u "<init>"), (0, u "()V"), (1, .class_ 10), (1, u "java/lang/Object")] 113

def k0m0 : Method := { name := "<init>", desc := "()V", sig := { parameters := [], returnType := none }, accessFlags := 1, code := none }
/-- java/lang/Object -/
def k0 : Class := { plain "java/lang/Object" none with
  accessFlags := 33
  interfaces := #[]
  cf := some (fileOf pool0 8 #[] #[{ accessFlags := 1, nameIndex := 5, descriptorIndex := 6, attributes := #[] }] 33 0 #[] #[])
  fields := #[]
  methods := #[k0m0]
  instanceTypes := #[]
  staticTypes := #[]
  resolved := Array.replicate 124 none
  statics := none }

def pool1 : Array CpInfo := pool [(2, .class_ 4), (1, u "java/lang/Object"), (0, u "<init>"), (0, u "()V"), (0, .class_ 8), (0, u "com/example/dongl/dongl/core/ErrorCode"), (0, .fieldref 7 10), (0, .nameAndType 11 12), (0, u "UNKNOWN_ERROR"), (0, u "Lcom/example/dongl/dongl/core/ErrorCode;"), (0, .fieldref 7 14), (0, .nameAndType 15 12), (0, u "NO_USER_ID"), (0, .fieldref 7 17), (0, .nameAndType 18 12), (0, u "NO_APPLICATION_ID"), (0, .fieldref 7 20), (0, .nameAndType 21 12), (0, u "INVALID_INPUT_FORMAT"), (0, .fieldref 7 23), (0, .nameAndType 24 12), (0, u "APPLICATION_NOT_FOUND"), (0, .fieldref 7 26), (0, .nameAndType 27 12), (0, u "APPLICATION_VERSION_NOT_FOUND"), (0, .fieldref 7 29), (0, .nameAndType 30 12), (0, u "APPLICATION_ALREADY_EXISTS"), (0, .fieldref 7 32), (0, .nameAndType 33 12), (0, u "APPLICATION_CREDENTIALS_NOT_UNIQUE"), (0, .fieldref 7 35), (0, .nameAndType 36 12), (0, u "INVALID_KEY"), (0, .fieldref 7 38), (0, .nameAndType 39 12), (0, u "ACTIVATION_NOT_FOUND"), (0, .fieldref 7 41), (0, .nameAndType 42 12), (0, u "ACTIVATION_ALREADY_EXISTS"), (0, .fieldref 7 44), (0, .nameAndType 45 12), (0, u "ACTIVATION_INCORRECT_STATE"), (0, .fieldref 7 47), (0, .nameAndType 48 12), (0, u "INVALID_REQUEST"), (0, .fieldref 7 50), (0, .nameAndType 51 12), (0, u "INVALID_ACTIVATION_CODE"), (0, .fieldref 7 53), (0, .nameAndType 54 12), (0, u "APPLICATION_VERSION_NOT_SUPPORTED"), (0, .fieldref 7 56), (0, .nameAndType 57 12), (0, u "DECRYPTION_FAILED"), (0, .fieldref 7 59), (0, .nameAndType 60 12), (0, u "INVALID_OTP"), (0, .fieldref 7 62), (0, .nameAndType 63 12), (0, u "INTEGRATION_AUTHENTICATION"), (0, .fieldref 7 65), (0, .nameAndType 66 12), (0, u "CLIENT_ENCRYPTION"), (0, .fieldref 7 68), (0, .nameAndType 69 12), (0, u "CLIENT_ACTIVATION"), (0, .fieldref 7 71), (0, .nameAndType 72 12), (0, u "CLIENT_VALIDATION"), (0, .fieldref 7 74), (0, .nameAndType 75 12), (0, u "CLIENT_AUTHENTICATION"), (0, .integer 2147483647), (0, .methodref 78 79), (0, .class_ 80), (0, .nameAndType 81 82), (0, u "com/example/dongl/dongl/server/ClientRefusals"), (0, u "code"), (0, u "(Lcom/example/dongl/dongl/core/ErrorCode;)Lcom/example/dongl/dongl/core/ErrorCode;"), (0, .class_ 84), (0, u "com/example/dongl/dongl/server/ClientRefusalsCodePinLaw"), (2, u "law"), (0, u "(I)Z")] 5

def k1m0 : Method := { name := "<init>", desc := "()V", sig := { parameters := [], returnType := none }, accessFlags := 2, code := none }
def k1c1 : Code := { maxStack := 4, maxLocals := 6, code := code, exceptionTable := #[], attributes := #[] }
def k1m1 : Method := { name := "law", desc := "(I)Z", sig := { parameters := [.int], returnType := some .boolean }, accessFlags := 9, code := some k1c1 }
/-- com/example/dongl/dongl/server/ClientRefusalsCodePinLaw -/
def k1 : Class := { plain "com/example/dongl/dongl/server/ClientRefusalsCodePinLaw" (some 0) with
  accessFlags := 49
  interfaces := #[]
  cf := some (fileOf pool1 83 #[] #[{ accessFlags := 2, nameIndex := 5, descriptorIndex := 6, attributes := #[] }, { accessFlags := 9, nameIndex := 87, descriptorIndex := 88, attributes := #[] }] 49 2 #[] #[])
  fields := #[]
  methods := #[k1m0, k1m1]
  instanceTypes := #[]
  staticTypes := #[]
  resolved := Array.replicate 94 none
  statics := none }

def pool2 : Array CpInfo := pool [(1, .class_ 2), (0, u "java/lang/constant/Constable"), (0, .class_ 4), (0, u "java/lang/Object")] 6

/-- java/lang/constant/Constable -/
def k2 : Class := { plain "java/lang/constant/Constable" (some 0) with
  accessFlags := 1537
  interfaces := #[]
  cf := some (fileOf pool2 1 #[] #[] 1537 3 #[] #[])
  fields := #[]
  methods := #[]
  instanceTypes := #[]
  staticTypes := #[]
  resolved := Array.replicate 11 none
  statics := none }

def pool3 : Array CpInfo := pool [(1, .class_ 2), (0, u "java/lang/Comparable"), (0, .class_ 4), (0, u "java/lang/Object")] 7

/-- java/lang/Comparable -/
def k3 : Class := { plain "java/lang/Comparable" (some 0) with
  accessFlags := 1537
  interfaces := #[]
  cf := some (fileOf pool3 1 #[] #[] 1537 3 #[] #[])
  fields := #[]
  methods := #[]
  instanceTypes := #[]
  staticTypes := #[]
  resolved := Array.replicate 12 none
  statics := none }

def pool4 : Array CpInfo := pool [(1, .class_ 2), (0, u "java/io/Serializable"), (0, .class_ 4), (0, u "java/lang/Object")] 2

/-- java/io/Serializable -/
def k4 : Class := { plain "java/io/Serializable" (some 0) with
  accessFlags := 1537
  interfaces := #[]
  cf := some (fileOf pool4 1 #[] #[] 1537 3 #[] #[])
  fields := #[]
  methods := #[]
  instanceTypes := #[]
  staticTypes := #[]
  resolved := Array.replicate 7 none
  statics := none }

def pool5 : Array CpInfo := pool [(2, .class_ 4), (1, u "java/lang/Enum"), (0, u "name"), (0, u "Ljava/lang/String;"), (0, .fieldref 2 8), (0, .nameAndType 9 10), (0, u "ordinal"), (0, u "I"), (1, .class_ 14), (1, u "java/lang/Object"), (4, u "hash"), (86, .class_ 108), (1, u "java/lang/Enum$EnumDesc"), (2, .class_ 112), (0, u "java/lang/constant/Constable"), (0, .class_ 114), (0, u "java/lang/Comparable"), (0, .class_ 116), (0, u "java/io/Serializable"), (9, u "()I")] 77

def k5c0 : Code := { maxStack := 1, maxLocals := 1, code := jdk_37_method_2_code, exceptionTable := #[], attributes := #[] }
def k5m0 : Method := { name := "ordinal", desc := "()I", sig := { parameters := [], returnType := some .int }, accessFlags := 17, code := some k5c0 }
/-- java/lang/Enum -/
def k5 : Class := { plain "java/lang/Enum" (some 0) with
  accessFlags := 1057
  interfaces := #[2, 3, 4]
  cf := some (fileOf pool5 2 #[.nestMembers #[106]] #[{ accessFlags := 17, nameIndex := 9, descriptorIndex := 126, attributes := #[] }] 1057 12 #[111, 113, 115] #[{ accessFlags := 18, nameIndex := 5, descriptorIndex := 6, attributes := #[] }, { accessFlags := 18, nameIndex := 9, descriptorIndex := 10, attributes := #[] }, { accessFlags := 2, nameIndex := 19, descriptorIndex := 10, attributes := #[] }])
  fields := #[{ name := "name", type := (.object "java/lang/String"), accessFlags := 18, slot := 0, constantValue := 0 }, { name := "ordinal", type := .int, accessFlags := 18, slot := 1, constantValue := 0 }, { name := "hash", type := .int, accessFlags := 2, slot := 2, constantValue := 0 }]
  methods := #[k5m0]
  instanceTypes := #[(.object "java/lang/String"), .int, .int]
  staticTypes := #[]
  resolved := Array.replicate 204 none
  statics := none }

def pool6 : Array CpInfo := pool [(1, .class_ 2), (0, u "com/example/dongl/dongl/core/ErrorCode"), (2, u "UNKNOWN_ERROR"), (0, u "Lcom/example/dongl/dongl/core/ErrorCode;"), (2, u "NO_USER_ID"), (2, u "NO_APPLICATION_ID"), (2, u "INVALID_INPUT_FORMAT"), (2, u "APPLICATION_NOT_FOUND"), (2, u "APPLICATION_VERSION_NOT_FOUND"), (2, u "APPLICATION_ALREADY_EXISTS"), (2, u "APPLICATION_CREDENTIALS_NOT_UNIQUE"), (2, u "INVALID_KEY"), (2, u "ACTIVATION_NOT_FOUND"), (2, u "ACTIVATION_ALREADY_EXISTS"), (2, u "ACTIVATION_INCORRECT_STATE"), (2, u "INVALID_REQUEST"), (2, u "INVALID_ACTIVATION_CODE"), (2, u "APPLICATION_VERSION_NOT_SUPPORTED"), (2, u "DECRYPTION_FAILED"), (2, u "INVALID_OTP"), (2, u "INTEGRATION_AUTHENTICATION"), (2, u "CLIENT_ENCRYPTION"), (2, u "CLIENT_ACTIVATION"), (2, u "CLIENT_VALIDATION"), (2, u "CLIENT_AUTHENTICATION"), (2, u "$VALUES"), (0, u "[Lcom/example/dongl/dongl/core/ErrorCode;"), (6, .class_ 82), (1, u "java/lang/Enum"), (8, u "code"), (0, u "Ljava/lang/String;"), (2, u "message")] 130

/-- com/example/dongl/dongl/core/ErrorCode -/
def k6 : Class := { plain "com/example/dongl/dongl/core/ErrorCode" (some 5) with
  accessFlags := 16433
  interfaces := #[]
  cf := some (fileOf pool6 1 #[] #[] 16433 80 #[] #[{ accessFlags := 16409, nameIndex := 5, descriptorIndex := 6, attributes := #[] }, { accessFlags := 16409, nameIndex := 9, descriptorIndex := 6, attributes := #[] }, { accessFlags := 16409, nameIndex := 12, descriptorIndex := 6, attributes := #[] }, { accessFlags := 16409, nameIndex := 15, descriptorIndex := 6, attributes := #[] }, { accessFlags := 16409, nameIndex := 18, descriptorIndex := 6, attributes := #[] }, { accessFlags := 16409, nameIndex := 21, descriptorIndex := 6, attributes := #[] }, { accessFlags := 16409, nameIndex := 24, descriptorIndex := 6, attributes := #[] }, { accessFlags := 16409, nameIndex := 27, descriptorIndex := 6, attributes := #[] }, { accessFlags := 16409, nameIndex := 30, descriptorIndex := 6, attributes := #[] }, { accessFlags := 16409, nameIndex := 33, descriptorIndex := 6, attributes := #[] }, { accessFlags := 16409, nameIndex := 36, descriptorIndex := 6, attributes := #[] }, { accessFlags := 16409, nameIndex := 39, descriptorIndex := 6, attributes := #[] }, { accessFlags := 16409, nameIndex := 42, descriptorIndex := 6, attributes := #[] }, { accessFlags := 16409, nameIndex := 45, descriptorIndex := 6, attributes := #[] }, { accessFlags := 16409, nameIndex := 48, descriptorIndex := 6, attributes := #[] }, { accessFlags := 16409, nameIndex := 51, descriptorIndex := 6, attributes := #[] }, { accessFlags := 16409, nameIndex := 54, descriptorIndex := 6, attributes := #[] }, { accessFlags := 16409, nameIndex := 57, descriptorIndex := 6, attributes := #[] }, { accessFlags := 16409, nameIndex := 60, descriptorIndex := 6, attributes := #[] }, { accessFlags := 16409, nameIndex := 63, descriptorIndex := 6, attributes := #[] }, { accessFlags := 16409, nameIndex := 66, descriptorIndex := 6, attributes := #[] }, { accessFlags := 16409, nameIndex := 69, descriptorIndex := 6, attributes := #[] }, { accessFlags := 18, nameIndex := 91, descriptorIndex := 92, attributes := #[] }, { accessFlags := 18, nameIndex := 95, descriptorIndex := 92, attributes := #[] }, { accessFlags := 4122, nameIndex := 72, descriptorIndex := 73, attributes := #[] }])
  fields := #[{ name := "UNKNOWN_ERROR", type := (.object "com/example/dongl/dongl/core/ErrorCode"), accessFlags := 16409, slot := 0, constantValue := 0 }, { name := "NO_USER_ID", type := (.object "com/example/dongl/dongl/core/ErrorCode"), accessFlags := 16409, slot := 1, constantValue := 0 }, { name := "NO_APPLICATION_ID", type := (.object "com/example/dongl/dongl/core/ErrorCode"), accessFlags := 16409, slot := 2, constantValue := 0 }, { name := "INVALID_INPUT_FORMAT", type := (.object "com/example/dongl/dongl/core/ErrorCode"), accessFlags := 16409, slot := 3, constantValue := 0 }, { name := "APPLICATION_NOT_FOUND", type := (.object "com/example/dongl/dongl/core/ErrorCode"), accessFlags := 16409, slot := 4, constantValue := 0 }, { name := "APPLICATION_VERSION_NOT_FOUND", type := (.object "com/example/dongl/dongl/core/ErrorCode"), accessFlags := 16409, slot := 5, constantValue := 0 }, { name := "APPLICATION_ALREADY_EXISTS", type := (.object "com/example/dongl/dongl/core/ErrorCode"), accessFlags := 16409, slot := 6, constantValue := 0 }, { name := "APPLICATION_CREDENTIALS_NOT_UNIQUE", type := (.object "com/example/dongl/dongl/core/ErrorCode"), accessFlags := 16409, slot := 7, constantValue := 0 }, { name := "INVALID_KEY", type := (.object "com/example/dongl/dongl/core/ErrorCode"), accessFlags := 16409, slot := 8, constantValue := 0 }, { name := "ACTIVATION_NOT_FOUND", type := (.object "com/example/dongl/dongl/core/ErrorCode"), accessFlags := 16409, slot := 9, constantValue := 0 }, { name := "ACTIVATION_ALREADY_EXISTS", type := (.object "com/example/dongl/dongl/core/ErrorCode"), accessFlags := 16409, slot := 10, constantValue := 0 }, { name := "ACTIVATION_INCORRECT_STATE", type := (.object "com/example/dongl/dongl/core/ErrorCode"), accessFlags := 16409, slot := 11, constantValue := 0 }, { name := "INVALID_REQUEST", type := (.object "com/example/dongl/dongl/core/ErrorCode"), accessFlags := 16409, slot := 12, constantValue := 0 }, { name := "INVALID_ACTIVATION_CODE", type := (.object "com/example/dongl/dongl/core/ErrorCode"), accessFlags := 16409, slot := 13, constantValue := 0 }, { name := "APPLICATION_VERSION_NOT_SUPPORTED", type := (.object "com/example/dongl/dongl/core/ErrorCode"), accessFlags := 16409, slot := 14, constantValue := 0 }, { name := "DECRYPTION_FAILED", type := (.object "com/example/dongl/dongl/core/ErrorCode"), accessFlags := 16409, slot := 15, constantValue := 0 }, { name := "INVALID_OTP", type := (.object "com/example/dongl/dongl/core/ErrorCode"), accessFlags := 16409, slot := 16, constantValue := 0 }, { name := "INTEGRATION_AUTHENTICATION", type := (.object "com/example/dongl/dongl/core/ErrorCode"), accessFlags := 16409, slot := 17, constantValue := 0 }, { name := "CLIENT_ENCRYPTION", type := (.object "com/example/dongl/dongl/core/ErrorCode"), accessFlags := 16409, slot := 18, constantValue := 0 }, { name := "CLIENT_ACTIVATION", type := (.object "com/example/dongl/dongl/core/ErrorCode"), accessFlags := 16409, slot := 19, constantValue := 0 }, { name := "CLIENT_VALIDATION", type := (.object "com/example/dongl/dongl/core/ErrorCode"), accessFlags := 16409, slot := 20, constantValue := 0 }, { name := "CLIENT_AUTHENTICATION", type := (.object "com/example/dongl/dongl/core/ErrorCode"), accessFlags := 16409, slot := 21, constantValue := 0 }, { name := "code", type := (.object "java/lang/String"), accessFlags := 18, slot := 3, constantValue := 0 }, { name := "message", type := (.object "java/lang/String"), accessFlags := 18, slot := 4, constantValue := 0 }, { name := "$VALUES", type := (.array (.object "com/example/dongl/dongl/core/ErrorCode")), accessFlags := 4122, slot := 22, constantValue := 0 }]
  methods := #[]
  instanceTypes := #[(.object "java/lang/String"), .int, .int, (.object "java/lang/String"), (.object "java/lang/String")]
  staticTypes := #[(.object "com/example/dongl/dongl/core/ErrorCode"), (.object "com/example/dongl/dongl/core/ErrorCode"), (.object "com/example/dongl/dongl/core/ErrorCode"), (.object "com/example/dongl/dongl/core/ErrorCode"), (.object "com/example/dongl/dongl/core/ErrorCode"), (.object "com/example/dongl/dongl/core/ErrorCode"), (.object "com/example/dongl/dongl/core/ErrorCode"), (.object "com/example/dongl/dongl/core/ErrorCode"), (.object "com/example/dongl/dongl/core/ErrorCode"), (.object "com/example/dongl/dongl/core/ErrorCode"), (.object "com/example/dongl/dongl/core/ErrorCode"), (.object "com/example/dongl/dongl/core/ErrorCode"), (.object "com/example/dongl/dongl/core/ErrorCode"), (.object "com/example/dongl/dongl/core/ErrorCode"), (.object "com/example/dongl/dongl/core/ErrorCode"), (.object "com/example/dongl/dongl/core/ErrorCode"), (.object "com/example/dongl/dongl/core/ErrorCode"), (.object "com/example/dongl/dongl/core/ErrorCode"), (.object "com/example/dongl/dongl/core/ErrorCode"), (.object "com/example/dongl/dongl/core/ErrorCode"), (.object "com/example/dongl/dongl/core/ErrorCode"), (.object "com/example/dongl/dongl/core/ErrorCode"), (.array (.object "com/example/dongl/dongl/core/ErrorCode"))]
  resolved := Array.replicate 226 none
  statics := some 0 }

def pool7 : Array CpInfo := pool [(2, .class_ 4), (1, u "java/lang/Object"), (0, u "<init>"), (0, u "()V"), (0, .fieldref 8 9), (0, .class_ 10), (0, .nameAndType 11 12), (0, u "com/example/dongl/dongl/server/ClientRefusals$1"), (0, u "$SwitchMap$com$example$dongl$dongl$core$ErrorCode"), (0, u "[I"), (0, .methodref 14 15), (0, .class_ 16), (0, .nameAndType 17 18), (0, u "com/example/dongl/dongl/core/ErrorCode"), (0, u "ordinal"), (0, u "()I"), (0, .fieldref 14 20), (0, .nameAndType 21 22), (0, u "CLIENT_ENCRYPTION"), (0, u "Lcom/example/dongl/dongl/core/ErrorCode;"), (0, .fieldref 14 24), (0, .nameAndType 25 22), (0, u "CLIENT_VALIDATION"), (0, .fieldref 14 27), (0, .nameAndType 28 22), (0, u "CLIENT_ACTIVATION"), (11, .class_ 41), (0, u "com/example/dongl/dongl/server/ClientRefusals"), (2, u "code"), (0, u "(Lcom/example/dongl/dongl/core/ErrorCode;)Lcom/example/dongl/dongl/core/ErrorCode;")] 9

def k7m0 : Method := { name := "<init>", desc := "()V", sig := { parameters := [], returnType := none }, accessFlags := 2, code := none }
def k7c1 : Code := { maxStack := 2, maxLocals := 2, code := prog_32_method_2_code, exceptionTable := #[], attributes := #[] }
def k7m1 : Method := { name := "code", desc := "(Lcom/example/dongl/dongl/core/ErrorCode;)Lcom/example/dongl/dongl/core/ErrorCode;", sig := { parameters := [(.object "com/example/dongl/dongl/core/ErrorCode")], returnType := some (.object "com/example/dongl/dongl/core/ErrorCode") }, accessFlags := 8, code := some k7c1 }
/-- com/example/dongl/dongl/server/ClientRefusals -/
def k7 : Class := { plain "com/example/dongl/dongl/server/ClientRefusals" (some 0) with
  accessFlags := 48
  interfaces := #[]
  cf := some (fileOf pool7 40 #[.nestMembers #[8]] #[{ accessFlags := 2, nameIndex := 5, descriptorIndex := 6, attributes := #[] }, { accessFlags := 8, nameIndex := 44, descriptorIndex := 45, attributes := #[] }] 48 2 #[] #[])
  fields := #[]
  methods := #[k7m0, k7m1]
  instanceTypes := #[]
  staticTypes := #[]
  resolved := Array.replicate 55 none
  statics := none }

def pool8 : Array CpInfo := pool [(8, .class_ 10), (1, u "com/example/dongl/dongl/server/ClientRefusals$1"), (0, u "$SwitchMap$com$example$dongl$dongl$core$ErrorCode"), (0, u "[I"), (37, .class_ 51), (0, u "java/lang/Object"), (8, .class_ 61), (0, u "com/example/dongl/dongl/server/ClientRefusals")] 2

/-- com/example/dongl/dongl/server/ClientRefusals$1 -/
def k8 : Class := { plain "com/example/dongl/dongl/server/ClientRefusals$1" (some 0) with
  accessFlags := 4128
  interfaces := #[]
  cf := some (fileOf pool8 8 #[.nestHost 60] #[] 4128 50 #[] #[{ accessFlags := 4120, nameIndex := 11, descriptorIndex := 12, attributes := #[] }])
  fields := #[{ name := "$SwitchMap$com$example$dongl$dongl$core$ErrorCode", type := (.array .int), accessFlags := 4120, slot := 0, constantValue := 0 }]
  methods := #[]
  instanceTypes := #[]
  staticTypes := #[(.array .int)]
  resolved := Array.replicate 64 none
  statics := some 1 }

def pool9 : Array CpInfo := pool [(1, u "java/lang/Cloneable"), (0, .class_ 1), (0, u "java/lang/Object"), (0, .class_ 3)] 3

/-- java/lang/Cloneable -/
def k9 : Class := { plain "java/lang/Cloneable" (some 0) with
  accessFlags := 1537
  interfaces := #[]
  cf := some (fileOf pool9 2 #[] #[] 1537 4 #[] #[])
  fields := #[]
  methods := #[]
  instanceTypes := #[]
  staticTypes := #[]
  resolved := Array.replicate 8 none
  statics := none }

/-- the primitive byte -/
def k10 : Class := { plain "byte" none with kind := .primitive 'B', accessFlags := 0x411 }
/-- [B -/
def k11 : Class := { plain "[B" (some 0) with kind := .array 10 .byte, interfaces := #[9, 4], accessFlags := 1041 }

/-- the primitive int -/
def k12 : Class := { plain "int" none with kind := .primitive 'I', accessFlags := 0x411 }
/-- [I -/
def k13 : Class := { plain "[I" (some 0) with kind := .array 12 .int, interfaces := #[9, 4], accessFlags := 1041 }

/-- [Lcom/example/dongl/dongl/core/ErrorCode; -/
def k14 : Class := { plain "[Lcom/example/dongl/dongl/core/ErrorCode;" (some 0) with kind := .array 6 (.object "com/example/dongl/dongl/core/ErrorCode"), interfaces := #[9, 4], accessFlags := 1041 }

def heap : Heap := #[{ cls := 6, slots := #[.ref 2, .ref 3, .ref 4, .ref 5, .ref 6, .ref 7, .ref 8, .ref 9, .ref 10, .ref 11, .ref 12, .ref 13, .ref 14, .ref 15, .ref 16, .ref 17, .ref 18, .ref 19, .ref 20, .ref 21, .ref 22, .ref 23, .null], vm := .statics 6 },
  { cls := 8, slots := #[.ref 24], vm := .statics 8 },
  { cls := 6, slots := #[.null, .int 0, .int 0, .null, .null], vm := .none },
  { cls := 6, slots := #[.null, .int 1, .int 0, .null, .null], vm := .none },
  { cls := 6, slots := #[.null, .int 2, .int 0, .null, .null], vm := .none },
  { cls := 6, slots := #[.null, .int 3, .int 0, .null, .null], vm := .none },
  { cls := 6, slots := #[.null, .int 4, .int 0, .null, .null], vm := .none },
  { cls := 6, slots := #[.null, .int 5, .int 0, .null, .null], vm := .none },
  { cls := 6, slots := #[.null, .int 6, .int 0, .null, .null], vm := .none },
  { cls := 6, slots := #[.null, .int 7, .int 0, .null, .null], vm := .none },
  { cls := 6, slots := #[.null, .int 8, .int 0, .null, .null], vm := .none },
  { cls := 6, slots := #[.null, .int 9, .int 0, .null, .null], vm := .none },
  { cls := 6, slots := #[.null, .int 10, .int 0, .null, .null], vm := .none },
  { cls := 6, slots := #[.null, .int 11, .int 0, .null, .null], vm := .none },
  { cls := 6, slots := #[.null, .int 12, .int 0, .null, .null], vm := .none },
  { cls := 6, slots := #[.null, .int 13, .int 0, .null, .null], vm := .none },
  { cls := 6, slots := #[.null, .int 14, .int 0, .null, .null], vm := .none },
  { cls := 6, slots := #[.null, .int 15, .int 0, .null, .null], vm := .none },
  { cls := 6, slots := #[.null, .int 16, .int 0, .null, .null], vm := .none },
  { cls := 6, slots := #[.null, .int 17, .int 0, .null, .null], vm := .none },
  { cls := 6, slots := #[.null, .int 18, .int 0, .null, .null], vm := .none },
  { cls := 6, slots := #[.null, .int 19, .int 0, .null, .null], vm := .none },
  { cls := 6, slots := #[.null, .int 20, .int 0, .null, .null], vm := .none },
  { cls := 6, slots := #[.null, .int 21, .int 0, .null, .null], vm := .none },
  { cls := 13, slots := #[.int 0, .int 0, .int 0, .int 3, .int 0, .int 8, .int 0, .int 0, .int 4, .int 5, .int 0, .int 6, .int 2, .int 7, .int 9, .int 1, .int 10, .int 0, .int 0, .int 0, .int 0, .int 0], vm := .none }]
def classes : Array Class := #[k0, k1, k2, k3, k4, k5, k6, k7, k8, k9, k10, k11, k12, k13, k14]
def interned : List (Array UInt16 × Addr) := []
def slotsUsed : Nat := 156
def theMethod : MethodId := ⟨1, 1⟩
def args0 : Array Value := #[.int 5]
def aboutOver (below : List Frame) : State where
  vm := { classes := classes, interned := interned.toArray }
  heap := heap
  slotsUsed := slotsUsed
  threads := #[{ frames := .invoking theMethod args0 :: below }]
def below0 : List Frame := [.native { method := ⟨0, 0⟩, args := #[] }]
def about1 : State := aboutOver below0
def p0 : Program := .bare "" "" ""
def e0 : Env := launch0.env 0 0 0
theorem w_frames : about1.frames = Frame.invoking theMethod args0 :: below0 := rfl
set_option maxRecDepth 65536 in
theorem w_args : argsFit about1.vm theMethod args0 = true := by decide +kernel
set_option maxRecDepth 65536 in
theorem w_heap : heapFits about1 = true := by decide +kernel
set_option maxRecDepth 65536 in
theorem w_runnable : about1.curStatus? = some .runnable := by decide +kernel
set_option maxRecDepth 65536 in
theorem w_alone : about1.alone = true := by decide +kernel
set_option maxRecDepth 65536 in
theorem w_named : about1.methodNamed? x = some theMethod := by decide +kernel
set_option maxRecDepth 65536 in
theorem w_hears : about1.hears theMethod below0 = true := by decide +kernel
set_option maxRecDepth 65536 in
theorem w_ripe : about1.ripe theMethod args0 below0 = true := by decide +kernel
theorem w_running : about1.status = .running := rfl
set_option maxRecDepth 65536 in
theorem w_room : about1.hasRoom e0.platform room_1 = true :=
  launch0.hasRoom_least _ room_1 (by decide +kernel) (by decide +kernel) (by decide +kernel) (by decide +kernel) (by decide +kernel) (by decide +kernel)
theorem allAtoms_all (ts : List Jvm.Cond) (a : Array Jvm.Value) (st : Jvm.State) : (allAtoms ts).before a st = ts.all (fun c => c.before a st) := by
  induction ts with
  | nil => rfl
  | cons c t ih =>
    show (Jvm.Cond.and c (allAtoms t)).before a st = _
    rw [Jvm.Cond.before_and, ih, List.all_cons]
def words1 : List Jvm.Cond := Jvm.Cond.code x code maxLocals ret :: tables_1
/-- a 'code' word, met by the world's own term for the bytes: nothing is compared byte by byte -/
theorem code_word {y : MethodName} {bytes : ByteArray} {mx : Nat} {rt : Option FieldType} {a : Array Value} {s : State} {m : MethodId} {meth : Method} {c : Code} (h1 : s.methodNamed? y = some m) (h2 : s.vm.method? m = some meth) (h3 : meth.code = some c) (h4 : c.code = bytes)
    (h5 : (c.maxLocals == mx && c.exceptionTable.isEmpty && decide (c.maxStack ≤ mostOperands) && decide (meth.sig.returnType = rt) && !meth.locks && decide (parseMethodDescriptor y.desc = some meth.sig)) = true) : (Jvm.Cond.code y bytes mx rt).before a s = true := by
  simp only [Bool.and_eq_true, beq_iff_eq, Bool.not_eq_true', decide_eq_true_eq] at h5
  obtain ⟨⟨⟨⟨⟨g1, g2⟩, g3⟩, g4⟩, g5⟩, g6⟩ := h5
  simp [Cond.before, Cond.holds, Cond.value, h1, h2, h3, h4, g1, g2, g3, g4, g5, g6]
def isCode : Jvm.Cond → Bool
  | .code _ _ _ _ => true
  | _ => false
theorem all_split {L : List Jvm.Cond} {P : Jvm.Cond → Bool} (h1 : L.all (fun c => isCode c || P c) = true) (h2 : ∀ c ∈ L.filter isCode, P c = true) : L.all P = true := by
  refine List.all_eq_true.mpr fun c hc => ?_
  have h := List.all_eq_true.mp h1 c hc
  rcases Bool.eq_false_or_eq_true (isCode c) with hi | hi
  · exact h2 c (List.mem_filter.mpr ⟨hc, hi⟩)
  · simpa [hi] using h
set_option maxRecDepth 65536 in
theorem w_c0 : (Jvm.Cond.code x code maxLocals ret).before args0 about1 = true := code_word (m := ⟨1, 1⟩) (meth := k1m1) (c := k1c1) (by decide +kernel) rfl rfl rfl (by decide +kernel)
set_option maxRecDepth 65536 in
theorem w_c1 : (Jvm.Cond.code ({ cls := "com/example/dongl/dongl/server/ClientRefusals", name := "code", desc := "(Lcom/example/dongl/dongl/core/ErrorCode;)Lcom/example/dongl/dongl/core/ErrorCode;" } : Jvm.MethodName) prog_32_method_2_code (2 : Nat) (Option.some (Jvm.ClassFile.FieldType.object "com/example/dongl/dongl/core/ErrorCode"))).before args0 about1 = true := code_word (m := ⟨7, 1⟩) (meth := k7m1) (c := k7c1) (by decide +kernel) rfl rfl rfl (by decide +kernel)
set_option maxRecDepth 65536 in
theorem w_c2 : (Jvm.Cond.code ({ cls := "java/lang/Enum", name := "ordinal", desc := "()I" } : Jvm.MethodName) jdk_37_method_2_code (1 : Nat) (Option.some Jvm.ClassFile.FieldType.int)).before args0 about1 = true := code_word (m := ⟨5, 0⟩) (meth := k5m0) (c := k5c0) (by decide +kernel) rfl rfl rfl (by decide +kernel)
def codes1 : List Jvm.Cond := [Jvm.Cond.code x code maxLocals ret, Jvm.Cond.code ({ cls := "com/example/dongl/dongl/server/ClientRefusals", name := "code", desc := "(Lcom/example/dongl/dongl/core/ErrorCode;)Lcom/example/dongl/dongl/core/ErrorCode;" } : Jvm.MethodName) prog_32_method_2_code (2 : Nat) (Option.some (Jvm.ClassFile.FieldType.object "com/example/dongl/dongl/core/ErrorCode")), Jvm.Cond.code ({ cls := "java/lang/Enum", name := "ordinal", desc := "()I" } : Jvm.MethodName) jdk_37_method_2_code (1 : Nat) (Option.some Jvm.ClassFile.FieldType.int)]
set_option maxRecDepth 65536 in
theorem codes_eq : words1.filter isCode = codes1 := rfl
theorem w_codes : ∀ c ∈ words1.filter isCode, c.before args0 about1 = true := by
  rw [codes_eq]
  intro c hc
  simp only [codes1, List.mem_cons, List.not_mem_nil, or_false] at hc
  rcases hc with rfl | rfl | rfl
  · exact w_c0
  · exact w_c1
  · exact w_c2
set_option maxRecDepth 65536 in
theorem w_t1 : (words1.take 24).all (fun c => isCode c || c.before args0 about1) = true := by decide +kernel
set_option maxRecDepth 65536 in
theorem w_t2 : ((words1.drop 24).take 24).all (fun c => isCode c || c.before args0 about1) = true := by decide +kernel
set_option maxRecDepth 65536 in
theorem w_t3 : ((words1.drop 24).drop 24).all (fun c => isCode c || c.before args0 about1) = true := by decide +kernel
theorem w_tables : (allAtoms (Jvm.Cond.code x code maxLocals ret :: tables_1)).before args0 about1 = true := by
  rw [allAtoms_all]
  show words1.all (fun c => c.before args0 about1) = true
  refine all_split ?_ w_codes
  rw [← List.take_append_drop 24 words1, List.all_append, w_t1, ← List.take_append_drop 24 (words1.drop 24), List.all_append, w_t2, w_t3]
  rfl
set_option maxRecDepth 65536 in
theorem w_case : (Jvm.Cond.and given_1 narrow_1).before args0 about1 = true := by decide +kernel
theorem w_applies : (headSpec (Jvm.Cond.code x code maxLocals ret :: tables_1) room_1).applies x e0.platform about1 = true :=
  (Spec.applies_iff w_frames).mpr ⟨w_running, w_runnable, w_alone, w_named, w_hears, w_ripe, w_room, w_tables⟩
theorem atStart : AtStart classFile x code maxLocals ret World_1 tables_1 room_1 Calls_1 rest_1 Pre_1 launch0 p0 e0 about1 theMethod args0 below0 :=
  ⟨lists_1, trivial, launch0.admits_env _ _ _, launch0.least_env, fairChoices_fair.cas, fairChoices_fair.clock, w_frames, w_args, w_heap, w_applies, trivial, trivial, w_case⟩
end start1
theorem witness_1 : WitnessClaimed_1 := ⟨start1.p0, start1.e0, start1.about1, start1.theMethod, start1.args0, start1.below0, start1.atStart⟩
end Jvm.Pilot.@@N@@
