import JvmDerived
import JvmDerived.Pilot.@@N@@Statement
import JvmDerived.Pilot.@@N@@Code
set_option linter.unusedVariables false
set_option linter.unusedSimpArgs false
namespace Jvm.Pilot.@@N@@
open Jvm Jvm.ClassFile Sem Op Lib Jvm.Free Jvm.Stand Jvm.LawKit Jvm.RoadKit Bundle Jvm.Pilot.@@N@@.Jvm.D
section Own
variable {p : Program} {l : Launch} {e : Env} {R : Room} {s : State} {m : MethodId} {args : Array Value} {below : List Frame} {meth : Method} {c : Code} {T : State} {locs : List Loc} {cells slots : Nat}
def Goes (p : Program) (e : Env) (below : List Frame) (P : State → Outcome → Prop) (A : State) : Prop :=
  ∃ s₂ o, Steps p.tables e below A s₂ ∧ s₂.status = .running ∧ Ended s₂ below o ∧ P s₂ o
theorem Goes.via {P : State → Outcome → Prop} {A B : State} (h : ∀ t, Steps p.tables e below B t → Steps p.tables e below A t) (k : Goes p e below P B) : Goes p e below P A := by
  obtain ⟨s₂, o, h1, h2⟩ := k
  exact ⟨s₂, o, h _ h1, h2⟩
theorem own_join {P : State → Outcome → Prop} {A B : State} (h : Goes p e below P B → Goes p e below P A) (k : Goes p e below P B) : Goes p e below P A := h k
theorem Goes.cast {P : State → Outcome → Prop} {g g' : JFrame} (q : g = g') (k : Goes p e below P (T.setTop g')) : Goes p e below P (T.setTop g) := q ▸ k
theorem own_out (X : Stand p l e R s m args below meth c T locs cells slots) {v : Option Value} (hv : meth.sig.returnType = none → v = none) (hlocks : meth.locks = false) {A : State} {Q : Option Value → Heap → List Loc → Prop} {kc ks : Nat}
    (st : ∀ fs, (∀ (f : JFrame) (acts : List Action), f.method = m → f.locked = none → f.entered = [] → (doReturn e (T.setTop f) acts v).1 = T.setFrames fs) → Steps p.tables e below A (T.setFrames fs))
    (hQ : Q v T.heap locs) (hc : cells ≤ kc) (hs : slots ≤ ks) : Goes p e below (fun s₂ o => ∃ v L, o = .returned v ∧ Q v s₂.heap L ∧ FrameEnd s o s₂ L kc ks) A := by
  obtain ⟨fs, hr, hrun, hended, hW, hsame⟩ := X.leave (v := v) hv hlocks
  exact ⟨_, _, st fs hr, hrun, hended, v, locs, rfl, hQ, ⟨_, rfl⟩, hW, hsame.mono hc hs⟩
end Own
section OwnW
variable {p : Program} {l : Launch} {e : Env} {R : Room} {s : State} {m : MethodId} {args : Array Value} {below : List Frame} {meth : Method} {c : Code} {T : State} {locs : List Loc} {cells slots : Nat}
theorem own_outW {vm₁ : Vm} (X : Stand p l e R (s.setVm vm₁) m args below meth c T locs cells slots) {n : Nat} (hS : s.Since vm₁ n) (hn : n ≤ T.heap.size) {v : Option Value} (hv : meth.sig.returnType = none → v = none) (hlocks : meth.locks = false) {A : State} {Q : Option Value → Heap → List Loc → Prop} {kc ks : Nat}
    (st : ∀ fs, (∀ (f : JFrame) (acts : List Action), f.method = m → f.locked = none → f.entered = [] → (doReturn e (T.setTop f) acts v).1 = T.setFrames fs) → Steps p.tables e below A (T.setFrames fs))
    (hQ : Q v T.heap locs) (hc : cells ≤ kc) (hs : slots ≤ ks) : Goes p e below (fun s₂ o => ∃ v L, o = .returned v ∧ Q v s₂.heap L ∧ ReturnedEndW s o s₂ L kc ks) A := by
  obtain ⟨fs, hr, hrun, hended, r1, r2, r3, r4⟩ := X.leaveW hS hn (v := v) hv hlocks
  exact ⟨_, _, st fs hr, hrun, hended, v, locs, rfl, hQ, r1, r2, r3, r4.mono hc hs⟩
theorem own_selects {a : Array Value} {y : MethodName} {n : Nat} (w1 : (Cond.instanceMethod y).before a s = true) (w2 : (Cond.privateMethod y).before a s = true) (w3 : (Cond.instantiable y.cls n).before a s = true) (hy : y.cls ≠ "java/lang/invoke/MethodHandle" ∧ y.cls ≠ "java/lang/invoke/VarHandle") : (Cond.selects y.cls y y).before a s = true := by
  obtain ⟨mk, methM, hnamed, hmethM, hst, hab⟩ := Cond.instanceMethod_spec w1
  have hf := State.methodFound?_of_named hnamed hy
  have hc := findClass_of_methodNamed hnamed
  obtain ⟨c, k, i1, i2, i3, i4, -⟩ := Cond.instantiable_spec w3
  cases hc.symm.trans i1
  have hsel : selectMethod {} s.vm mk.cls mk = .method mk := selectMethod_private hmethM (Cond.privateMethod_at w2 mk methM hnamed hmethM)
  have hi : k.isInterface = false := by cases h : k.isInterface <;> simp [h] at i4 ⊢
  simp [Cond.before, Cond.holds, Cond.value, hc, hf, hnamed, hsel, i2, hi]
end OwnW
def own_R (Z : State) (h : Heap) (a : Addr) (rv : Value) (st : Int64) (nx ta tl ra rl ca cl dl nr : Int32) : Prop :=
  Exa Z h a "com/example/highwater/highwater/sweep/QueueLayout$RunReader" ∧ Fld Z h a "com/example/highwater/highwater/sweep/QueueLayout$RunReader" "run" "[B" rv ∧ Fld Z h a "com/example/highwater/highwater/sweep/QueueLayout$RunReader" "start" "J" (.long st) ∧ Fld Z h a "com/example/highwater/highwater/sweep/QueueLayout$RunReader" "next" "I" (.int nx) ∧ Fld Z h a "com/example/highwater/highwater/sweep/QueueLayout$RunReader" "tableAt" "I" (.int ta) ∧ Fld Z h a "com/example/highwater/highwater/sweep/QueueLayout$RunReader" "tableLength" "I" (.int tl) ∧ Fld Z h a "com/example/highwater/highwater/sweep/QueueLayout$RunReader" "rowAt" "I" (.int ra) ∧ Fld Z h a "com/example/highwater/highwater/sweep/QueueLayout$RunReader" "rowLength" "I" (.int rl) ∧ Fld Z h a "com/example/highwater/highwater/sweep/QueueLayout$RunReader" "columnAt" "I" (.int ca) ∧ Fld Z h a "com/example/highwater/highwater/sweep/QueueLayout$RunReader" "columnLength" "I" (.int cl) ∧ Fld Z h a "com/example/highwater/highwater/sweep/QueueLayout$RunReader" "deletion" "Z" (.int dl) ∧ Fld Z h a "com/example/highwater/highwater/sweep/QueueLayout$RunReader" "namesRow" "Z" (.int nr)
def own_nx (i x : Int32) : Int32 := (i + (1 : Int32)) + x
def own_dl (k : Int32) : Int32 := if k = (0 : Int32) then (1 : Int32) else (0 : Int32)
def own_kd (p : Int32) : Int32 := (((p.toUInt32 >>> ((4 : Int32) &&& 31).toUInt32).toInt32) &&& (1 : Int32))
def own_ok7 (vs : List Value) (K A B C : Int32) : Prop :=
  vs.getD (0 : Int32).toNatClampNeg (.int (0 : Int32)) = .int K ∧ vs.getD (1 : Int32).toNatClampNeg (.int (0 : Int32)) = .int A ∧ vs.getD (own_nx (1 : Int32) A).toNatClampNeg (.int (0 : Int32)) = .int B ∧ vs.getD (own_nx (own_nx (1 : Int32) A) B).toNatClampNeg (.int (0 : Int32)) = .int C
def own_abc (A B C : Int32) : Prop := 0 ≤ A.toInt ∧ 0 ≤ B.toInt ∧ 0 ≤ C.toInt ∧ A.toInt + B.toInt + C.toInt = 3
theorem own_kb {k : Int32} (h : k = 0 ∨ k = 1) : nar .byte (k.toInt8.toInt32) = k := by rcases h with rfl | rfl <;> decide +kernel
theorem own_ll (x : Int32) : (x.toInt64.toInt32) = x := Int32.toInt32_toInt64 x
theorem own_idx {i : Int32} (h : 0 ≤ i.toInt ∧ i.toInt < 7) : ¬ i < 0 ∧ i < (7 : Int32) := by
  constructor <;> rw [Int32.lt_iff_toInt_lt] <;> simp only [Int32.reduceToInt] <;> omega
theorem own_v4 {x : Int32} (h : 0 ≤ x.toInt ∧ x.toInt ≤ 3) : x = (0 : Int32) ∨ x = (1 : Int32) ∨ x = (2 : Int32) ∨ x = (3 : Int32) := by
  simp only [← Int32.toInt_inj, Int32.reduceToInt]
  omega
theorem own_nn {x : Int32} (h : 0 ≤ x.toInt ∧ x.toInt ≤ 3) : ¬ x < (0 : Int32) := by rw [Int32.lt_iff_toInt_lt]; simp only [Int32.reduceToInt]; omega
theorem own_nxi {i x : Int32} (hi : 0 ≤ i.toInt ∧ i.toInt < 7) (hx : 0 ≤ x.toInt ∧ x.toInt ≤ 3) : (own_nx i x).toInt = i.toInt + 1 + x.toInt := by
  unfold own_nx
  have a := c_iadd i 1
  have b := c_iadd (i + 1) x
  have r := rng32 (i + 1)
  have r2 := rng32 (i + 1 + x)
  simp only [Int32.reduceToInt] at a
  omega
theorem own_p9 {i : Int32} (hi : 0 ≤ i.toInt ∧ i.toInt < 7) : ¬ i = (7 : Int32) := by
  rw [← Int32.toInt_inj]; simp only [Int32.reduceToInt]; omega
theorem own_p55 {x : Int32} (h : 0 ≤ x.toInt ∧ x.toInt ≤ 3) : ¬ (lcmpW (x.toInt64) (0 : Int64)) < (0 : Int32) := by
  rw [lw_lt, Int64.lt_iff_toInt_lt, c_i2l]; simp only [Int64.reduceToInt]; omega
theorem own_p71 {i x : Int32} (hi : 0 ≤ i.toInt ∧ i.toInt < 7) (hx : 0 ≤ x.toInt ∧ x.toInt ≤ 3) (hf : i.toInt + 1 + x.toInt ≤ 7) : ¬ (0 : Int32) < (lcmpW (x.toInt64) (((7 : Int32) - (i + (1 : Int32))).toInt64)) := by
  rw [lw_gt, Int64.lt_iff_toInt_lt, c_i2l, c_i2l]
  have a := c_iadd i 1
  have b := c_isub 7 (i + 1)
  have r := rng32 (i + 1)
  have r2 := rng32 (7 - (i + 1))
  simp only [Int32.reduceToInt] at a b
  omega
theorem d1_0 : decode jdk_33_method_47_code 0 = .ok (.iload_n 0, 1) := by decide +kernel
theorem d1_1 : decode jdk_33_method_47_code 1 = .ok (.ifCond .gt 14, 3) := by decide +kernel
theorem d1_4 : decode jdk_33_method_47_code 4 = .ok (.iload_n 0, 1) := by decide +kernel
theorem d1_5 : decode jdk_33_method_47_code 5 = .ok (.ifCond .ne 8, 3) := by decide +kernel
theorem d1_8 : decode jdk_33_method_47_code 8 = .ok (.bipush 32, 2) := by decide +kernel
theorem d1_10 : decode jdk_33_method_47_code 10 = .ok (.goto 4, 3) := by decide +kernel
theorem d1_14 : decode jdk_33_method_47_code 14 = .ok (.ireturn, 1) := by decide +kernel
theorem pn_java_lang_Integer : plainName "java/lang/Integer" = true := by first | (simp [plainName, overriddenIn]; done) | decide +kernel
theorem ef_1_0 (m : MethodId) (x0 : Int32) : entryFrame m #[(.int x0)] 2 = mkF m 0 #[.val (.int x0), .unset] [] := by first | (simp [entryFrame, mkF, argsToLocals, Value.category]; done) | rfl
def Q1_0 (Z : State)  (h0 : Heap) (n0 : Nat) (v : Option Value) (h : Heap) (L : List Loc) : Prop := v = some (.int (32 : Int32)) ∧ Fr n0 L ∧ h = h0
set_option maxRecDepth 65536 in
set_option maxHeartbeats 40000000 in
theorem rm1_0 (l : Launch) (Z : State) (a0 : Array Value) (hw : ∀ d ∈ tables_1, d.before a0 Z = true) (ws : List Jvm.Cond)  (h0 : Heap) (n0 : Nat) (Z0 : n0 ≤ h0.size)  :
    MetFree l (⟨"java/lang/Integer", "numberOfLeadingZeros", "(I)I"⟩ : MethodName) (head1 (Jvm.Cond.code (⟨"java/lang/Integer", "numberOfLeadingZeros", "(I)I"⟩ : MethodName) jdk_33_method_47_code 2 (some .int) :: ws) ({ frames := 0, cells := 0, slots := 0, locals := 0 } : Room)) (fun a U => a = #[(.int (0 : Int32))] ∧ Z.Warmed39 U.vm ∧ U.heap = h0) (fun _ _ _ _ _ => True) (fun _ U o U' => ∃ v L, o = .returned v ∧ Q1_0 Z  h0 n0 v U'.heap L ∧ FrameEnd U o U' L ({ frames := 0, cells := 0, slots := 0, locals := 0 } : Room).cells ({ frames := 0, cells := 0, slots := 0, locals := 0 } : Room).slots) := by
  refine MetFree.of_bodySF (plainFor_of_name pn_java_lang_Integer) hisR ?_
  intro p e s m args below meth c s₁ Bd hml0 hP hK
  obtain ⟨rfl, hZ, hh⟩ := hP
  have hx := Bd.exec
  have hby := Bd.bytes
  have hml : c.maxLocals = 2 := hml0
  have hown : s.vm.findClass "java/lang/Integer" = some m.cls := findClass_of_methodNamed Bd.named
  have hnm := (name_of_methodNamed Bd.named Bd.method).1
  have X0 : Stand p l e ({ frames := 0, cells := 0, slots := 0, locals := 0 } : Room) s m #[(.int (0 : Int32))] below meth c s₁ [] 0 0 := Stand.of_body Bd
  have e0 : s₁.heap = h0 := by rw [← hh, Bd.state]; rfl
  have N0 := Fr.nil n0
  show Goes p e below (fun s₂ o => ∃ v L, o = .returned v ∧ Q1_0 Z  h0 n0 v s₂.heap L ∧ FrameEnd s o s₂ L ({ frames := 0, cells := 0, slots := 0, locals := 0 } : Room).cells ({ frames := 0, cells := 0, slots := 0, locals := 0 } : Room).slots) (s₁.setTop (entryFrame m #[(.int (0 : Int32))] 2))
  refine Goes.cast (ef_1_0 m (0 : Int32)) ?_
  refine Goes.via (B := s₁.setTop (mkF m 1 #[.val (.int (0 : Int32)), .unset] [(.int (0 : Int32))])) (fun t k => XS.iloadN X0.here hx rfl (hb hby d1_0) rfl k) ?_
  refine Goes.via (B := s₁.setTop (mkF m 4 #[.val (.int (0 : Int32)), .unset] [])) (fun t k => XS.ifNo X0.here hx rfl (hb hby d1_1) rfl ((if0 _ _).trans (flt (by decide : ¬ (0 : Int32) < (0 : Int32))).2.2.1) k) ?_
  refine Goes.via (B := s₁.setTop (mkF m 5 #[.val (.int (0 : Int32)), .unset] [(.int (0 : Int32))])) (fun t k => XS.iloadN X0.here hx rfl (hb hby d1_4) rfl k) ?_
  refine Goes.via (B := s₁.setTop (mkF m 8 #[.val (.int (0 : Int32)), .unset] [])) (fun t k => XS.ifNo X0.here hx rfl (hb hby d1_5) rfl ((if0 _ _).trans (teq (by decide : (0 : Int32) = (0 : Int32))).2) k) ?_
  refine Goes.via (B := s₁.setTop (mkF m 10 #[.val (.int (0 : Int32)), .unset] [(.int (32 : Int32))])) (fun t k => XS.bipush X0.here hx rfl (hb hby d1_8) k) ?_
  refine Goes.via (B := s₁.setTop (mkF m 14 #[.val (.int (0 : Int32)), .unset] [(.int (32 : Int32))])) (fun t k => XS.goto X0.here hx rfl (pc0 := 10) (pc' := 14) rfl (hb hby d1_10) (by decide) (by decide) k) ?_
  exact own_out X0 (v := some (.int (32 : Int32))) (fun h => by rw [Bd.returns] at h; cases h) Bd.notSynchronized (fun fs hr => retOut X0 hx Bd.returns rfl (Or.inl ⟨rfl, Or.inl rfl, _, rfl⟩) (hb hby d1_14) hr) ⟨rfl, N0, e0⟩ (by decide) (by decide)
theorem d1_15 : decode jdk_33_method_47_code 15 = .ok (.bipush 31, 2) := by decide +kernel
theorem d1_17 : decode jdk_33_method_47_code 17 = .ok (.istore_n 1, 1) := by decide +kernel
theorem d1_18 : decode jdk_33_method_47_code 18 = .ok (.iload_n 0, 1) := by decide +kernel
theorem d1_19 : decode jdk_33_method_47_code 19 = .ok (.ldc_w 264, 3) := by decide +kernel
theorem d1_22 : decode jdk_33_method_47_code 22 = .ok (.if_icmp .lt 11, 3) := by decide +kernel
theorem d1_33 : decode jdk_33_method_47_code 33 = .ok (.iload_n 0, 1) := by decide +kernel
theorem d1_34 : decode jdk_33_method_47_code 34 = .ok (.sipush 256, 3) := by decide +kernel
theorem d1_37 : decode jdk_33_method_47_code 37 = .ok (.if_icmp .lt 11, 3) := by decide +kernel
theorem d1_48 : decode jdk_33_method_47_code 48 = .ok (.iload_n 0, 1) := by decide +kernel
theorem d1_49 : decode jdk_33_method_47_code 49 = .ok (.bipush 16, 2) := by decide +kernel
theorem d1_51 : decode jdk_33_method_47_code 51 = .ok (.if_icmp .lt 10, 3) := by decide +kernel
theorem d1_61 : decode jdk_33_method_47_code 61 = .ok (.iload_n 0, 1) := by decide +kernel
theorem d1_62 : decode jdk_33_method_47_code 62 = .ok (.iconst 4, 1) := by decide +kernel
theorem d1_63 : decode jdk_33_method_47_code 63 = .ok (.if_icmp .lt 10, 3) := by decide +kernel
theorem d1_73 : decode jdk_33_method_47_code 73 = .ok (.iload_n 1, 1) := by decide +kernel
theorem d1_74 : decode jdk_33_method_47_code 74 = .ok (.iload_n 0, 1) := by decide +kernel
theorem d1_75 : decode jdk_33_method_47_code 75 = .ok (.iconst 1, 1) := by decide +kernel
theorem d1_76 : decode jdk_33_method_47_code 76 = .ok (.iushr, 1) := by decide +kernel
theorem d1_77 : decode jdk_33_method_47_code 77 = .ok (.isub, 1) := by decide +kernel
theorem d1_78 : decode jdk_33_method_47_code 78 = .ok (.ireturn, 1) := by decide +kernel
theorem ef_1_1 (m : MethodId) (x0 : Int32) : entryFrame m #[(.int x0)] 2 = mkF m 0 #[.val (.int x0), .unset] [] := by first | (simp [entryFrame, mkF, argsToLocals, Value.category]; done) | rfl
def Q1_1 (Z : State)  (h0 : Heap) (n0 : Nat) (v : Option Value) (h : Heap) (L : List Loc) : Prop := v = some (.int (31 : Int32)) ∧ Fr n0 L ∧ h = h0
set_option maxRecDepth 65536 in
set_option maxHeartbeats 40000000 in
theorem rm1_1 (l : Launch) (Z : State) (a0 : Array Value) (hw : ∀ d ∈ tables_1, d.before a0 Z = true) (ws : List Jvm.Cond)  (h0 : Heap) (n0 : Nat) (Z0 : n0 ≤ h0.size)  :
    MetFree l (⟨"java/lang/Integer", "numberOfLeadingZeros", "(I)I"⟩ : MethodName) (head1 (Jvm.Cond.code (⟨"java/lang/Integer", "numberOfLeadingZeros", "(I)I"⟩ : MethodName) jdk_33_method_47_code 2 (some .int) :: ws) ({ frames := 0, cells := 0, slots := 0, locals := 0 } : Room)) (fun a U => a = #[(.int (1 : Int32))] ∧ Z.Warmed39 U.vm ∧ U.heap = h0) (fun _ _ _ _ _ => True) (fun _ U o U' => ∃ v L, o = .returned v ∧ Q1_1 Z  h0 n0 v U'.heap L ∧ FrameEnd U o U' L ({ frames := 0, cells := 0, slots := 0, locals := 0 } : Room).cells ({ frames := 0, cells := 0, slots := 0, locals := 0 } : Room).slots) := by
  refine MetFree.of_bodySF (plainFor_of_name pn_java_lang_Integer) hisR ?_
  intro p e s m args below meth c s₁ Bd hml0 hP hK
  obtain ⟨rfl, hZ, hh⟩ := hP
  have hx := Bd.exec
  have hby := Bd.bytes
  have hml : c.maxLocals = 2 := hml0
  have hown : s.vm.findClass "java/lang/Integer" = some m.cls := findClass_of_methodNamed Bd.named
  have hnm := (name_of_methodNamed Bd.named Bd.method).1
  have X0 : Stand p l e ({ frames := 0, cells := 0, slots := 0, locals := 0 } : Room) s m #[(.int (1 : Int32))] below meth c s₁ [] 0 0 := Stand.of_body Bd
  have e0 : s₁.heap = h0 := by rw [← hh, Bd.state]; rfl
  have N0 := Fr.nil n0
  show Goes p e below (fun s₂ o => ∃ v L, o = .returned v ∧ Q1_1 Z  h0 n0 v s₂.heap L ∧ FrameEnd s o s₂ L ({ frames := 0, cells := 0, slots := 0, locals := 0 } : Room).cells ({ frames := 0, cells := 0, slots := 0, locals := 0 } : Room).slots) (s₁.setTop (entryFrame m #[(.int (1 : Int32))] 2))
  refine Goes.cast (ef_1_1 m (1 : Int32)) ?_
  refine Goes.via (B := s₁.setTop (mkF m 1 #[.val (.int (1 : Int32)), .unset] [(.int (1 : Int32))])) (fun t k => XS.iloadN X0.here hx rfl (hb hby d1_0) rfl k) ?_
  refine Goes.via (B := s₁.setTop (mkF m 15 #[.val (.int (1 : Int32)), .unset] [])) (fun t k => XS.ifYes X0.here hx rfl (pc0 := 1) (pc' := 15) rfl (hb hby d1_1) rfl ((if0 _ _).trans (tlt (by decide : (0 : Int32) < (1 : Int32))).2.2.1) (by decide) (by decide) k) ?_
  refine Goes.via (B := s₁.setTop (mkF m 17 #[.val (.int (1 : Int32)), .unset] [(.int (31 : Int32))])) (fun t k => XS.bipush X0.here hx rfl (hb hby d1_15) k) ?_
  refine Goes.via (B := s₁.setTop (mkF m 18 #[.val (.int (1 : Int32)), .val (.int (31 : Int32))] [])) (fun t k => XS.istoreN X0.here hx rfl (hb hby d1_17) rfl (l' := #[.val (.int (1 : Int32)), .val (.int (31 : Int32))]) rfl k) ?_
  refine Goes.via (B := s₁.setTop (mkF m 19 #[.val (.int (1 : Int32)), .val (.int (31 : Int32))] [(.int (1 : Int32))])) (fun t k => XS.iloadN X0.here hx rfl (hb hby d1_18) rfl k) ?_
  refine Goes.via (B := s₁.setTop (mkF m 22 #[.val (.int (1 : Int32)), .val (.int (31 : Int32))] [(.int (65536 : Int32)), (.int (1 : Int32))])) (fun t k => X0.ldcwInt hx hown (mvT hZ (hw _ (List.mem_of_getElem? (i := 66) rfl))) (g := (mkF m 19 #[.val (.int (1 : Int32)), .val (.int (31 : Int32))] [(.int (1 : Int32))])) rfl (hb hby d1_19) _ k) ?_
  refine Goes.via (B := s₁.setTop (mkF m 33 #[.val (.int (1 : Int32)), .val (.int (31 : Int32))] [])) (fun t k => XS.icmpYes X0.here hx rfl (pc0 := 22) (pc' := 33) rfl (hb hby d1_22) rfl (tlt (by decide : (1 : Int32) < (65536 : Int32))).1 (by decide) (by decide) k) ?_
  refine Goes.via (B := s₁.setTop (mkF m 34 #[.val (.int (1 : Int32)), .val (.int (31 : Int32))] [(.int (1 : Int32))])) (fun t k => XS.iloadN X0.here hx rfl (hb hby d1_33) rfl k) ?_
  refine Goes.via (B := s₁.setTop (mkF m 37 #[.val (.int (1 : Int32)), .val (.int (31 : Int32))] [(.int (256 : Int32)), (.int (1 : Int32))])) (fun t k => XS.sipush X0.here hx rfl (hb hby d1_34) k) ?_
  refine Goes.via (B := s₁.setTop (mkF m 48 #[.val (.int (1 : Int32)), .val (.int (31 : Int32))] [])) (fun t k => XS.icmpYes X0.here hx rfl (pc0 := 37) (pc' := 48) rfl (hb hby d1_37) rfl (tlt (by decide : (1 : Int32) < (256 : Int32))).1 (by decide) (by decide) k) ?_
  refine Goes.via (B := s₁.setTop (mkF m 49 #[.val (.int (1 : Int32)), .val (.int (31 : Int32))] [(.int (1 : Int32))])) (fun t k => XS.iloadN X0.here hx rfl (hb hby d1_48) rfl k) ?_
  refine Goes.via (B := s₁.setTop (mkF m 51 #[.val (.int (1 : Int32)), .val (.int (31 : Int32))] [(.int (16 : Int32)), (.int (1 : Int32))])) (fun t k => XS.bipush X0.here hx rfl (hb hby d1_49) k) ?_
  refine Goes.via (B := s₁.setTop (mkF m 61 #[.val (.int (1 : Int32)), .val (.int (31 : Int32))] [])) (fun t k => XS.icmpYes X0.here hx rfl (pc0 := 51) (pc' := 61) rfl (hb hby d1_51) rfl (tlt (by decide : (1 : Int32) < (16 : Int32))).1 (by decide) (by decide) k) ?_
  refine Goes.via (B := s₁.setTop (mkF m 62 #[.val (.int (1 : Int32)), .val (.int (31 : Int32))] [(.int (1 : Int32))])) (fun t k => XS.iloadN X0.here hx rfl (hb hby d1_61) rfl k) ?_
  refine Goes.via (B := s₁.setTop (mkF m 63 #[.val (.int (1 : Int32)), .val (.int (31 : Int32))] [(.int (4 : Int32)), (.int (1 : Int32))])) (fun t k => XS.iconst X0.here hx rfl (hb hby d1_62) k) ?_
  refine Goes.via (B := s₁.setTop (mkF m 73 #[.val (.int (1 : Int32)), .val (.int (31 : Int32))] [])) (fun t k => XS.icmpYes X0.here hx rfl (pc0 := 63) (pc' := 73) rfl (hb hby d1_63) rfl (tlt (by decide : (1 : Int32) < (4 : Int32))).1 (by decide) (by decide) k) ?_
  refine Goes.via (B := s₁.setTop (mkF m 74 #[.val (.int (1 : Int32)), .val (.int (31 : Int32))] [(.int (31 : Int32))])) (fun t k => XS.iloadN X0.here hx rfl (hb hby d1_73) rfl k) ?_
  refine Goes.via (B := s₁.setTop (mkF m 75 #[.val (.int (1 : Int32)), .val (.int (31 : Int32))] [(.int (1 : Int32)), (.int (31 : Int32))])) (fun t k => XS.iloadN X0.here hx rfl (hb hby d1_74) rfl k) ?_
  refine Goes.via (B := s₁.setTop (mkF m 76 #[.val (.int (1 : Int32)), .val (.int (31 : Int32))] [(.int (1 : Int32)), (.int (1 : Int32)), (.int (31 : Int32))])) (fun t k => XS.iconst X0.here hx rfl (hb hby d1_75) k) ?_
  refine Goes.via (B := s₁.setTop (mkF m 77 #[.val (.int (1 : Int32)), .val (.int (31 : Int32))] [(.int (((1 : Int32).toUInt32 >>> ((1 : Int32) &&& 31).toUInt32).toInt32)), (.int (31 : Int32))])) (fun t k => XS.iushr X0.here hx rfl (hb hby d1_76) rfl k) ?_
  rw [show (((1 : Int32).toUInt32 >>> ((1 : Int32) &&& 31).toUInt32).toInt32) = (0 : Int32) from by decide +kernel]
  refine Goes.via (B := s₁.setTop (mkF m 78 #[.val (.int (1 : Int32)), .val (.int (31 : Int32))] [(.int (31 : Int32))])) (fun t k => XS.isub X0.here hx rfl (hb hby d1_77) rfl k) ?_
  exact own_out X0 (v := some (.int (31 : Int32))) (fun h => by rw [Bd.returns] at h; cases h) Bd.notSynchronized (fun fs hr => retOut X0 hx Bd.returns rfl (Or.inl ⟨rfl, Or.inl rfl, _, rfl⟩) (hb hby d1_78) hr) ⟨rfl, N0, e0⟩ (by decide) (by decide)
theorem ef_1_2 (m : MethodId) (x0 : Int32) : entryFrame m #[(.int x0)] 2 = mkF m 0 #[.val (.int x0), .unset] [] := by first | (simp [entryFrame, mkF, argsToLocals, Value.category]; done) | rfl
def Q1_2 (Z : State)  (h0 : Heap) (n0 : Nat) (v : Option Value) (h : Heap) (L : List Loc) : Prop := v = some (.int (30 : Int32)) ∧ Fr n0 L ∧ h = h0
set_option maxRecDepth 65536 in
set_option maxHeartbeats 40000000 in
theorem rm1_2 (l : Launch) (Z : State) (a0 : Array Value) (hw : ∀ d ∈ tables_1, d.before a0 Z = true) (ws : List Jvm.Cond)  (h0 : Heap) (n0 : Nat) (Z0 : n0 ≤ h0.size)  :
    MetFree l (⟨"java/lang/Integer", "numberOfLeadingZeros", "(I)I"⟩ : MethodName) (head1 (Jvm.Cond.code (⟨"java/lang/Integer", "numberOfLeadingZeros", "(I)I"⟩ : MethodName) jdk_33_method_47_code 2 (some .int) :: ws) ({ frames := 0, cells := 0, slots := 0, locals := 0 } : Room)) (fun a U => a = #[(.int (2 : Int32))] ∧ Z.Warmed39 U.vm ∧ U.heap = h0) (fun _ _ _ _ _ => True) (fun _ U o U' => ∃ v L, o = .returned v ∧ Q1_2 Z  h0 n0 v U'.heap L ∧ FrameEnd U o U' L ({ frames := 0, cells := 0, slots := 0, locals := 0 } : Room).cells ({ frames := 0, cells := 0, slots := 0, locals := 0 } : Room).slots) := by
  refine MetFree.of_bodySF (plainFor_of_name pn_java_lang_Integer) hisR ?_
  intro p e s m args below meth c s₁ Bd hml0 hP hK
  obtain ⟨rfl, hZ, hh⟩ := hP
  have hx := Bd.exec
  have hby := Bd.bytes
  have hml : c.maxLocals = 2 := hml0
  have hown : s.vm.findClass "java/lang/Integer" = some m.cls := findClass_of_methodNamed Bd.named
  have hnm := (name_of_methodNamed Bd.named Bd.method).1
  have X0 : Stand p l e ({ frames := 0, cells := 0, slots := 0, locals := 0 } : Room) s m #[(.int (2 : Int32))] below meth c s₁ [] 0 0 := Stand.of_body Bd
  have e0 : s₁.heap = h0 := by rw [← hh, Bd.state]; rfl
  have N0 := Fr.nil n0
  show Goes p e below (fun s₂ o => ∃ v L, o = .returned v ∧ Q1_2 Z  h0 n0 v s₂.heap L ∧ FrameEnd s o s₂ L ({ frames := 0, cells := 0, slots := 0, locals := 0 } : Room).cells ({ frames := 0, cells := 0, slots := 0, locals := 0 } : Room).slots) (s₁.setTop (entryFrame m #[(.int (2 : Int32))] 2))
  refine Goes.cast (ef_1_2 m (2 : Int32)) ?_
  refine Goes.via (B := s₁.setTop (mkF m 1 #[.val (.int (2 : Int32)), .unset] [(.int (2 : Int32))])) (fun t k => XS.iloadN X0.here hx rfl (hb hby d1_0) rfl k) ?_
  refine Goes.via (B := s₁.setTop (mkF m 15 #[.val (.int (2 : Int32)), .unset] [])) (fun t k => XS.ifYes X0.here hx rfl (pc0 := 1) (pc' := 15) rfl (hb hby d1_1) rfl ((if0 _ _).trans (tlt (by decide : (0 : Int32) < (2 : Int32))).2.2.1) (by decide) (by decide) k) ?_
  refine Goes.via (B := s₁.setTop (mkF m 17 #[.val (.int (2 : Int32)), .unset] [(.int (31 : Int32))])) (fun t k => XS.bipush X0.here hx rfl (hb hby d1_15) k) ?_
  refine Goes.via (B := s₁.setTop (mkF m 18 #[.val (.int (2 : Int32)), .val (.int (31 : Int32))] [])) (fun t k => XS.istoreN X0.here hx rfl (hb hby d1_17) rfl (l' := #[.val (.int (2 : Int32)), .val (.int (31 : Int32))]) rfl k) ?_
  refine Goes.via (B := s₁.setTop (mkF m 19 #[.val (.int (2 : Int32)), .val (.int (31 : Int32))] [(.int (2 : Int32))])) (fun t k => XS.iloadN X0.here hx rfl (hb hby d1_18) rfl k) ?_
  refine Goes.via (B := s₁.setTop (mkF m 22 #[.val (.int (2 : Int32)), .val (.int (31 : Int32))] [(.int (65536 : Int32)), (.int (2 : Int32))])) (fun t k => X0.ldcwInt hx hown (mvT hZ (hw _ (List.mem_of_getElem? (i := 66) rfl))) (g := (mkF m 19 #[.val (.int (2 : Int32)), .val (.int (31 : Int32))] [(.int (2 : Int32))])) rfl (hb hby d1_19) _ k) ?_
  refine Goes.via (B := s₁.setTop (mkF m 33 #[.val (.int (2 : Int32)), .val (.int (31 : Int32))] [])) (fun t k => XS.icmpYes X0.here hx rfl (pc0 := 22) (pc' := 33) rfl (hb hby d1_22) rfl (tlt (by decide : (2 : Int32) < (65536 : Int32))).1 (by decide) (by decide) k) ?_
  refine Goes.via (B := s₁.setTop (mkF m 34 #[.val (.int (2 : Int32)), .val (.int (31 : Int32))] [(.int (2 : Int32))])) (fun t k => XS.iloadN X0.here hx rfl (hb hby d1_33) rfl k) ?_
  refine Goes.via (B := s₁.setTop (mkF m 37 #[.val (.int (2 : Int32)), .val (.int (31 : Int32))] [(.int (256 : Int32)), (.int (2 : Int32))])) (fun t k => XS.sipush X0.here hx rfl (hb hby d1_34) k) ?_
  refine Goes.via (B := s₁.setTop (mkF m 48 #[.val (.int (2 : Int32)), .val (.int (31 : Int32))] [])) (fun t k => XS.icmpYes X0.here hx rfl (pc0 := 37) (pc' := 48) rfl (hb hby d1_37) rfl (tlt (by decide : (2 : Int32) < (256 : Int32))).1 (by decide) (by decide) k) ?_
  refine Goes.via (B := s₁.setTop (mkF m 49 #[.val (.int (2 : Int32)), .val (.int (31 : Int32))] [(.int (2 : Int32))])) (fun t k => XS.iloadN X0.here hx rfl (hb hby d1_48) rfl k) ?_
  refine Goes.via (B := s₁.setTop (mkF m 51 #[.val (.int (2 : Int32)), .val (.int (31 : Int32))] [(.int (16 : Int32)), (.int (2 : Int32))])) (fun t k => XS.bipush X0.here hx rfl (hb hby d1_49) k) ?_
  refine Goes.via (B := s₁.setTop (mkF m 61 #[.val (.int (2 : Int32)), .val (.int (31 : Int32))] [])) (fun t k => XS.icmpYes X0.here hx rfl (pc0 := 51) (pc' := 61) rfl (hb hby d1_51) rfl (tlt (by decide : (2 : Int32) < (16 : Int32))).1 (by decide) (by decide) k) ?_
  refine Goes.via (B := s₁.setTop (mkF m 62 #[.val (.int (2 : Int32)), .val (.int (31 : Int32))] [(.int (2 : Int32))])) (fun t k => XS.iloadN X0.here hx rfl (hb hby d1_61) rfl k) ?_
  refine Goes.via (B := s₁.setTop (mkF m 63 #[.val (.int (2 : Int32)), .val (.int (31 : Int32))] [(.int (4 : Int32)), (.int (2 : Int32))])) (fun t k => XS.iconst X0.here hx rfl (hb hby d1_62) k) ?_
  refine Goes.via (B := s₁.setTop (mkF m 73 #[.val (.int (2 : Int32)), .val (.int (31 : Int32))] [])) (fun t k => XS.icmpYes X0.here hx rfl (pc0 := 63) (pc' := 73) rfl (hb hby d1_63) rfl (tlt (by decide : (2 : Int32) < (4 : Int32))).1 (by decide) (by decide) k) ?_
  refine Goes.via (B := s₁.setTop (mkF m 74 #[.val (.int (2 : Int32)), .val (.int (31 : Int32))] [(.int (31 : Int32))])) (fun t k => XS.iloadN X0.here hx rfl (hb hby d1_73) rfl k) ?_
  refine Goes.via (B := s₁.setTop (mkF m 75 #[.val (.int (2 : Int32)), .val (.int (31 : Int32))] [(.int (2 : Int32)), (.int (31 : Int32))])) (fun t k => XS.iloadN X0.here hx rfl (hb hby d1_74) rfl k) ?_
  refine Goes.via (B := s₁.setTop (mkF m 76 #[.val (.int (2 : Int32)), .val (.int (31 : Int32))] [(.int (1 : Int32)), (.int (2 : Int32)), (.int (31 : Int32))])) (fun t k => XS.iconst X0.here hx rfl (hb hby d1_75) k) ?_
  refine Goes.via (B := s₁.setTop (mkF m 77 #[.val (.int (2 : Int32)), .val (.int (31 : Int32))] [(.int (((2 : Int32).toUInt32 >>> ((1 : Int32) &&& 31).toUInt32).toInt32)), (.int (31 : Int32))])) (fun t k => XS.iushr X0.here hx rfl (hb hby d1_76) rfl k) ?_
  rw [show (((2 : Int32).toUInt32 >>> ((1 : Int32) &&& 31).toUInt32).toInt32) = (1 : Int32) from by decide +kernel]
  refine Goes.via (B := s₁.setTop (mkF m 78 #[.val (.int (2 : Int32)), .val (.int (31 : Int32))] [(.int (30 : Int32))])) (fun t k => XS.isub X0.here hx rfl (hb hby d1_77) rfl k) ?_
  exact own_out X0 (v := some (.int (30 : Int32))) (fun h => by rw [Bd.returns] at h; cases h) Bd.notSynchronized (fun fs hr => retOut X0 hx Bd.returns rfl (Or.inl ⟨rfl, Or.inl rfl, _, rfl⟩) (hb hby d1_78) hr) ⟨rfl, N0, e0⟩ (by decide) (by decide)
theorem ef_1_3 (m : MethodId) (x0 : Int32) : entryFrame m #[(.int x0)] 2 = mkF m 0 #[.val (.int x0), .unset] [] := by first | (simp [entryFrame, mkF, argsToLocals, Value.category]; done) | rfl
def Q1_3 (Z : State)  (h0 : Heap) (n0 : Nat) (v : Option Value) (h : Heap) (L : List Loc) : Prop := v = some (.int (30 : Int32)) ∧ Fr n0 L ∧ h = h0
set_option maxRecDepth 65536 in
set_option maxHeartbeats 40000000 in
theorem rm1_3 (l : Launch) (Z : State) (a0 : Array Value) (hw : ∀ d ∈ tables_1, d.before a0 Z = true) (ws : List Jvm.Cond)  (h0 : Heap) (n0 : Nat) (Z0 : n0 ≤ h0.size)  :
    MetFree l (⟨"java/lang/Integer", "numberOfLeadingZeros", "(I)I"⟩ : MethodName) (head1 (Jvm.Cond.code (⟨"java/lang/Integer", "numberOfLeadingZeros", "(I)I"⟩ : MethodName) jdk_33_method_47_code 2 (some .int) :: ws) ({ frames := 0, cells := 0, slots := 0, locals := 0 } : Room)) (fun a U => a = #[(.int (3 : Int32))] ∧ Z.Warmed39 U.vm ∧ U.heap = h0) (fun _ _ _ _ _ => True) (fun _ U o U' => ∃ v L, o = .returned v ∧ Q1_3 Z  h0 n0 v U'.heap L ∧ FrameEnd U o U' L ({ frames := 0, cells := 0, slots := 0, locals := 0 } : Room).cells ({ frames := 0, cells := 0, slots := 0, locals := 0 } : Room).slots) := by
  refine MetFree.of_bodySF (plainFor_of_name pn_java_lang_Integer) hisR ?_
  intro p e s m args below meth c s₁ Bd hml0 hP hK
  obtain ⟨rfl, hZ, hh⟩ := hP
  have hx := Bd.exec
  have hby := Bd.bytes
  have hml : c.maxLocals = 2 := hml0
  have hown : s.vm.findClass "java/lang/Integer" = some m.cls := findClass_of_methodNamed Bd.named
  have hnm := (name_of_methodNamed Bd.named Bd.method).1
  have X0 : Stand p l e ({ frames := 0, cells := 0, slots := 0, locals := 0 } : Room) s m #[(.int (3 : Int32))] below meth c s₁ [] 0 0 := Stand.of_body Bd
  have e0 : s₁.heap = h0 := by rw [← hh, Bd.state]; rfl
  have N0 := Fr.nil n0
  show Goes p e below (fun s₂ o => ∃ v L, o = .returned v ∧ Q1_3 Z  h0 n0 v s₂.heap L ∧ FrameEnd s o s₂ L ({ frames := 0, cells := 0, slots := 0, locals := 0 } : Room).cells ({ frames := 0, cells := 0, slots := 0, locals := 0 } : Room).slots) (s₁.setTop (entryFrame m #[(.int (3 : Int32))] 2))
  refine Goes.cast (ef_1_3 m (3 : Int32)) ?_
  refine Goes.via (B := s₁.setTop (mkF m 1 #[.val (.int (3 : Int32)), .unset] [(.int (3 : Int32))])) (fun t k => XS.iloadN X0.here hx rfl (hb hby d1_0) rfl k) ?_
  refine Goes.via (B := s₁.setTop (mkF m 15 #[.val (.int (3 : Int32)), .unset] [])) (fun t k => XS.ifYes X0.here hx rfl (pc0 := 1) (pc' := 15) rfl (hb hby d1_1) rfl ((if0 _ _).trans (tlt (by decide : (0 : Int32) < (3 : Int32))).2.2.1) (by decide) (by decide) k) ?_
  refine Goes.via (B := s₁.setTop (mkF m 17 #[.val (.int (3 : Int32)), .unset] [(.int (31 : Int32))])) (fun t k => XS.bipush X0.here hx rfl (hb hby d1_15) k) ?_
  refine Goes.via (B := s₁.setTop (mkF m 18 #[.val (.int (3 : Int32)), .val (.int (31 : Int32))] [])) (fun t k => XS.istoreN X0.here hx rfl (hb hby d1_17) rfl (l' := #[.val (.int (3 : Int32)), .val (.int (31 : Int32))]) rfl k) ?_
  refine Goes.via (B := s₁.setTop (mkF m 19 #[.val (.int (3 : Int32)), .val (.int (31 : Int32))] [(.int (3 : Int32))])) (fun t k => XS.iloadN X0.here hx rfl (hb hby d1_18) rfl k) ?_
  refine Goes.via (B := s₁.setTop (mkF m 22 #[.val (.int (3 : Int32)), .val (.int (31 : Int32))] [(.int (65536 : Int32)), (.int (3 : Int32))])) (fun t k => X0.ldcwInt hx hown (mvT hZ (hw _ (List.mem_of_getElem? (i := 66) rfl))) (g := (mkF m 19 #[.val (.int (3 : Int32)), .val (.int (31 : Int32))] [(.int (3 : Int32))])) rfl (hb hby d1_19) _ k) ?_
  refine Goes.via (B := s₁.setTop (mkF m 33 #[.val (.int (3 : Int32)), .val (.int (31 : Int32))] [])) (fun t k => XS.icmpYes X0.here hx rfl (pc0 := 22) (pc' := 33) rfl (hb hby d1_22) rfl (tlt (by decide : (3 : Int32) < (65536 : Int32))).1 (by decide) (by decide) k) ?_
  refine Goes.via (B := s₁.setTop (mkF m 34 #[.val (.int (3 : Int32)), .val (.int (31 : Int32))] [(.int (3 : Int32))])) (fun t k => XS.iloadN X0.here hx rfl (hb hby d1_33) rfl k) ?_
  refine Goes.via (B := s₁.setTop (mkF m 37 #[.val (.int (3 : Int32)), .val (.int (31 : Int32))] [(.int (256 : Int32)), (.int (3 : Int32))])) (fun t k => XS.sipush X0.here hx rfl (hb hby d1_34) k) ?_
  refine Goes.via (B := s₁.setTop (mkF m 48 #[.val (.int (3 : Int32)), .val (.int (31 : Int32))] [])) (fun t k => XS.icmpYes X0.here hx rfl (pc0 := 37) (pc' := 48) rfl (hb hby d1_37) rfl (tlt (by decide : (3 : Int32) < (256 : Int32))).1 (by decide) (by decide) k) ?_
  refine Goes.via (B := s₁.setTop (mkF m 49 #[.val (.int (3 : Int32)), .val (.int (31 : Int32))] [(.int (3 : Int32))])) (fun t k => XS.iloadN X0.here hx rfl (hb hby d1_48) rfl k) ?_
  refine Goes.via (B := s₁.setTop (mkF m 51 #[.val (.int (3 : Int32)), .val (.int (31 : Int32))] [(.int (16 : Int32)), (.int (3 : Int32))])) (fun t k => XS.bipush X0.here hx rfl (hb hby d1_49) k) ?_
  refine Goes.via (B := s₁.setTop (mkF m 61 #[.val (.int (3 : Int32)), .val (.int (31 : Int32))] [])) (fun t k => XS.icmpYes X0.here hx rfl (pc0 := 51) (pc' := 61) rfl (hb hby d1_51) rfl (tlt (by decide : (3 : Int32) < (16 : Int32))).1 (by decide) (by decide) k) ?_
  refine Goes.via (B := s₁.setTop (mkF m 62 #[.val (.int (3 : Int32)), .val (.int (31 : Int32))] [(.int (3 : Int32))])) (fun t k => XS.iloadN X0.here hx rfl (hb hby d1_61) rfl k) ?_
  refine Goes.via (B := s₁.setTop (mkF m 63 #[.val (.int (3 : Int32)), .val (.int (31 : Int32))] [(.int (4 : Int32)), (.int (3 : Int32))])) (fun t k => XS.iconst X0.here hx rfl (hb hby d1_62) k) ?_
  refine Goes.via (B := s₁.setTop (mkF m 73 #[.val (.int (3 : Int32)), .val (.int (31 : Int32))] [])) (fun t k => XS.icmpYes X0.here hx rfl (pc0 := 63) (pc' := 73) rfl (hb hby d1_63) rfl (tlt (by decide : (3 : Int32) < (4 : Int32))).1 (by decide) (by decide) k) ?_
  refine Goes.via (B := s₁.setTop (mkF m 74 #[.val (.int (3 : Int32)), .val (.int (31 : Int32))] [(.int (31 : Int32))])) (fun t k => XS.iloadN X0.here hx rfl (hb hby d1_73) rfl k) ?_
  refine Goes.via (B := s₁.setTop (mkF m 75 #[.val (.int (3 : Int32)), .val (.int (31 : Int32))] [(.int (3 : Int32)), (.int (31 : Int32))])) (fun t k => XS.iloadN X0.here hx rfl (hb hby d1_74) rfl k) ?_
  refine Goes.via (B := s₁.setTop (mkF m 76 #[.val (.int (3 : Int32)), .val (.int (31 : Int32))] [(.int (1 : Int32)), (.int (3 : Int32)), (.int (31 : Int32))])) (fun t k => XS.iconst X0.here hx rfl (hb hby d1_75) k) ?_
  refine Goes.via (B := s₁.setTop (mkF m 77 #[.val (.int (3 : Int32)), .val (.int (31 : Int32))] [(.int (((3 : Int32).toUInt32 >>> ((1 : Int32) &&& 31).toUInt32).toInt32)), (.int (31 : Int32))])) (fun t k => XS.iushr X0.here hx rfl (hb hby d1_76) rfl k) ?_
  rw [show (((3 : Int32).toUInt32 >>> ((1 : Int32) &&& 31).toUInt32).toInt32) = (1 : Int32) from by decide +kernel]
  refine Goes.via (B := s₁.setTop (mkF m 78 #[.val (.int (3 : Int32)), .val (.int (31 : Int32))] [(.int (30 : Int32))])) (fun t k => XS.isub X0.here hx rfl (hb hby d1_77) rfl k) ?_
  exact own_out X0 (v := some (.int (30 : Int32))) (fun h => by rw [Bd.returns] at h; cases h) Bd.notSynchronized (fun fs hr => retOut X0 hx Bd.returns rfl (Or.inl ⟨rfl, Or.inl rfl, _, rfl⟩) (hb hby d1_78) hr) ⟨rfl, N0, e0⟩ (by decide) (by decide)
theorem d2_0 : decode jdk_35_method_48_code 0 = .ok (.lload_n 0, 1) := by decide +kernel
theorem d2_1 : decode jdk_35_method_48_code 1 = .ok (.bipush 32, 2) := by decide +kernel
theorem d2_3 : decode jdk_35_method_48_code 3 = .ok (.lushr, 1) := by decide +kernel
theorem d2_4 : decode jdk_35_method_48_code 4 = .ok (.l2i, 1) := by decide +kernel
theorem d2_5 : decode jdk_35_method_48_code 5 = .ok (.istore_n 2, 1) := by decide +kernel
theorem d2_6 : decode jdk_35_method_48_code 6 = .ok (.iload_n 2, 1) := by decide +kernel
theorem d2_7 : decode jdk_35_method_48_code 7 = .ok (.ifCond .ne 14, 3) := by decide +kernel
theorem d2_10 : decode jdk_35_method_48_code 10 = .ok (.bipush 32, 2) := by decide +kernel
theorem d2_12 : decode jdk_35_method_48_code 12 = .ok (.lload_n 0, 1) := by decide +kernel
theorem d2_13 : decode jdk_35_method_48_code 13 = .ok (.l2i, 1) := by decide +kernel
theorem d2_14 : decode jdk_35_method_48_code 14 = .ok (.invokestatic 308, 3) := by decide +kernel
theorem d2_17 : decode jdk_35_method_48_code 17 = .ok (.iadd, 1) := by decide +kernel
theorem d2_18 : decode jdk_35_method_48_code 18 = .ok (.goto 7, 3) := by decide +kernel
theorem d2_25 : decode jdk_35_method_48_code 25 = .ok (.ireturn, 1) := by decide +kernel
theorem pn_java_lang_Long : plainName "java/lang/Long" = true := by first | (simp [plainName, overriddenIn]; done) | decide +kernel
theorem pd__I_I : parseMethodDescriptor "(I)I" = some ⟨[.int], some .int⟩ := by decide +kernel
theorem ef_2_0 (m : MethodId) (x0 : Int64) : entryFrame m #[(.long x0)] 3 = mkF m 0 #[.val (.long x0), .second, .unset] [] := by first | (simp [entryFrame, mkF, argsToLocals, Value.category]; done) | rfl
def Q2_0 (Z : State)  (h0 : Heap) (n0 : Nat) (v : Option Value) (h : Heap) (L : List Loc) : Prop := v = some (.int (64 : Int32)) ∧ Fr n0 L ∧ h = h0
set_option maxRecDepth 65536 in
set_option maxHeartbeats 40000000 in
theorem rm2_0 (l : Launch) (Z : State) (a0 : Array Value) (hw : ∀ d ∈ tables_1, d.before a0 Z = true) (ws : List Jvm.Cond)  (h0 : Heap) (n0 : Nat) (Z0 : n0 ≤ h0.size)  :
    MetFree l (⟨"java/lang/Long", "numberOfLeadingZeros", "(J)I"⟩ : MethodName) (head1 (Jvm.Cond.code (⟨"java/lang/Long", "numberOfLeadingZeros", "(J)I"⟩ : MethodName) jdk_35_method_48_code 3 (some .int) :: ws) ({ frames := 1, cells := 0, slots := 0, locals := 14 } : Room)) (fun a U => a = #[(.long (0 : Int64))] ∧ Z.Warmed39 U.vm ∧ U.heap = h0) (fun _ _ _ _ _ => True) (fun _ U o U' => ∃ v L, o = .returned v ∧ Q2_0 Z  h0 n0 v U'.heap L ∧ FrameEnd U o U' L ({ frames := 1, cells := 0, slots := 0, locals := 14 } : Room).cells ({ frames := 1, cells := 0, slots := 0, locals := 14 } : Room).slots) := by
  refine MetFree.of_bodySF (plainFor_of_name pn_java_lang_Long) hisR ?_
  intro p e s m args below meth c s₁ Bd hml0 hP hK
  obtain ⟨rfl, hZ, hh⟩ := hP
  have hx := Bd.exec
  have hby := Bd.bytes
  have hml : c.maxLocals = 3 := hml0
  have hown : s.vm.findClass "java/lang/Long" = some m.cls := findClass_of_methodNamed Bd.named
  have hnm := (name_of_methodNamed Bd.named Bd.method).1
  have X0 : Stand p l e ({ frames := 1, cells := 0, slots := 0, locals := 14 } : Room) s m #[(.long (0 : Int64))] below meth c s₁ [] 0 0 := Stand.of_body Bd
  have e0 : s₁.heap = h0 := by rw [← hh, Bd.state]; rfl
  have N0 := Fr.nil n0
  show Goes p e below (fun s₂ o => ∃ v L, o = .returned v ∧ Q2_0 Z  h0 n0 v s₂.heap L ∧ FrameEnd s o s₂ L ({ frames := 1, cells := 0, slots := 0, locals := 14 } : Room).cells ({ frames := 1, cells := 0, slots := 0, locals := 14 } : Room).slots) (s₁.setTop (entryFrame m #[(.long (0 : Int64))] 3))
  refine Goes.cast (ef_2_0 m (0 : Int64)) ?_
  refine Goes.via (B := s₁.setTop (mkF m 1 #[.val (.long (0 : Int64)), .second, .unset] [(.long (0 : Int64))])) (fun t k => XS.lloadN X0.here hx rfl (hb hby d2_0) rfl k) ?_
  refine Goes.via (B := s₁.setTop (mkF m 3 #[.val (.long (0 : Int64)), .second, .unset] [(.int (32 : Int32)), (.long (0 : Int64))])) (fun t k => XS.bipush X0.here hx rfl (hb hby d2_1) k) ?_
  refine Goes.via (B := s₁.setTop (mkF m 4 #[.val (.long (0 : Int64)), .second, .unset] [(.long (((0 : Int64).toUInt64 >>> ((32 : Int32) &&& 0x3f).toInt64.toUInt64).toInt64))])) (fun t k => XS.lushr X0.here hx rfl (hb hby d2_3) rfl k) ?_
  rw [show (((0 : Int64).toUInt64 >>> ((32 : Int32) &&& 0x3f).toInt64.toUInt64).toInt64) = (0 : Int64) from by decide +kernel]
  refine Goes.via (B := s₁.setTop (mkF m 5 #[.val (.long (0 : Int64)), .second, .unset] [(.int ((0 : Int64).toInt32))])) (fun t k => XS.l2i X0.here hx rfl (hb hby d2_4) rfl k) ?_
  rw [show ((0 : Int64).toInt32) = (0 : Int32) from by decide +kernel]
  refine Goes.via (B := s₁.setTop (mkF m 6 #[.val (.long (0 : Int64)), .second, .val (.int (0 : Int32))] [])) (fun t k => XS.istoreN X0.here hx rfl (hb hby d2_5) rfl (l' := #[.val (.long (0 : Int64)), .second, .val (.int (0 : Int32))]) rfl k) ?_
  refine Goes.via (B := s₁.setTop (mkF m 7 #[.val (.long (0 : Int64)), .second, .val (.int (0 : Int32))] [(.int (0 : Int32))])) (fun t k => XS.iloadN X0.here hx rfl (hb hby d2_6) rfl k) ?_
  refine Goes.via (B := s₁.setTop (mkF m 10 #[.val (.long (0 : Int64)), .second, .val (.int (0 : Int32))] [])) (fun t k => XS.ifNo X0.here hx rfl (hb hby d2_7) rfl ((if0 _ _).trans (teq (by decide : (0 : Int32) = (0 : Int32))).2) k) ?_
  refine Goes.via (B := s₁.setTop (mkF m 12 #[.val (.long (0 : Int64)), .second, .val (.int (0 : Int32))] [(.int (32 : Int32))])) (fun t k => XS.bipush X0.here hx rfl (hb hby d2_10) k) ?_
  refine Goes.via (B := s₁.setTop (mkF m 13 #[.val (.long (0 : Int64)), .second, .val (.int (0 : Int32))] [(.long (0 : Int64)), (.int (32 : Int32))])) (fun t k => XS.lloadN X0.here hx rfl (hb hby d2_12) rfl k) ?_
  refine Goes.via (B := s₁.setTop (mkF m 14 #[.val (.long (0 : Int64)), .second, .val (.int (0 : Int32))] [(.int ((0 : Int64).toInt32)), (.int (32 : Int32))])) (fun t k => XS.l2i X0.here hx rfl (hb hby d2_13) rfl k) ?_
  rw [show ((0 : Int64).toInt32) = (0 : Int32) from by decide +kernel]
  obtain ⟨_, _, ⟨T1, L1, kk1, nn1⟩, -, X1, ⟨Lc1, hQ1, l1, y1, z1⟩, st1⟩ := Jvm.LawKit.callS X0 hx (y := (⟨"java/lang/Integer", "numberOfLeadingZeros", "(I)I"⟩ : MethodName)) hown (mvT hZ (hw _ (List.mem_of_getElem? (i := 62) rfl))) (mvT hZ (hw _ (List.mem_of_getElem? (i := 63) rfl))) (mvT hZ (hw _ (List.mem_of_getElem? (i := 64) rfl))) (mvT hZ (hw _ (List.mem_of_getElem? (i := 65) rfl))) (by decide) (backOf (W := 1) (rm1_0 l Z a0 hw []  h0 n0 Z0 ) hZ (hw _ (List.mem_of_getElem? (i := 65) rfl)) (hw _ (List.mem_of_getElem? (i := 64) rfl)) (by decide) (by decide)) (g := (mkF m 14 #[.val (.long (0 : Int64)), .second, .val (.int (0 : Int32))] [(.int (0 : Int32)), (.int (32 : Int32))])) rfl (by rw [hml]; rfl) (argsL := [(.int (0 : Int32))]) (rest := [(.int (32 : Int32))]) (lenOf pd__I_I rfl) rfl (by show 2 * 0 + _ ≤ _; exact Nat.le_of_eq rfl) (hb hby d2_14) (fun _ _ => ⟨rfl, e0, (by decide : 0 + 0 ≤ _), (by decide : 0 + 0 ≤ _)⟩)
  dsimp only [Pt.U, Pt.locs, Pt.cells, Pt.slots] at X1 l1 y1 z1 st1 hQ1
  subst l1 y1 z1
  obtain ⟨rfl, Nq1, hq1⟩ := hQ1
  have N1 := Fr.app N0 Nq1
  refine Goes.via (B := T1.setTop (mkF m 17 #[.val (.long (0 : Int64)), .second, .val (.int (0 : Int32))] [(.int (32 : Int32)), (.int (32 : Int32))])) st1 ?_
  refine Goes.via (B := T1.setTop (mkF m 18 #[.val (.long (0 : Int64)), .second, .val (.int (0 : Int32))] [(.int (64 : Int32))])) (fun t k => XS.iadd X1.here hx rfl (hb hby d2_17) rfl k) ?_
  refine Goes.via (B := T1.setTop (mkF m 25 #[.val (.long (0 : Int64)), .second, .val (.int (0 : Int32))] [(.int (64 : Int32))])) (fun t k => XS.goto X1.here hx rfl (pc0 := 18) (pc' := 25) rfl (hb hby d2_18) (by decide) (by decide) k) ?_
  exact own_out X1 (v := some (.int (64 : Int32))) (fun h => by rw [Bd.returns] at h; cases h) Bd.notSynchronized (fun fs hr => retOut X1 hx Bd.returns rfl (Or.inl ⟨rfl, Or.inl rfl, _, rfl⟩) (hb hby d2_25) hr) ⟨rfl, N1, hq1⟩ (by decide) (by decide)
theorem ef_2_1 (m : MethodId) (x0 : Int64) : entryFrame m #[(.long x0)] 3 = mkF m 0 #[.val (.long x0), .second, .unset] [] := by first | (simp [entryFrame, mkF, argsToLocals, Value.category]; done) | rfl
def Q2_1 (Z : State)  (h0 : Heap) (n0 : Nat) (v : Option Value) (h : Heap) (L : List Loc) : Prop := v = some (.int (63 : Int32)) ∧ Fr n0 L ∧ h = h0
set_option maxRecDepth 65536 in
set_option maxHeartbeats 40000000 in
theorem rm2_1 (l : Launch) (Z : State) (a0 : Array Value) (hw : ∀ d ∈ tables_1, d.before a0 Z = true) (ws : List Jvm.Cond)  (h0 : Heap) (n0 : Nat) (Z0 : n0 ≤ h0.size)  :
    MetFree l (⟨"java/lang/Long", "numberOfLeadingZeros", "(J)I"⟩ : MethodName) (head1 (Jvm.Cond.code (⟨"java/lang/Long", "numberOfLeadingZeros", "(J)I"⟩ : MethodName) jdk_35_method_48_code 3 (some .int) :: ws) ({ frames := 1, cells := 0, slots := 0, locals := 14 } : Room)) (fun a U => a = #[(.long (1 : Int64))] ∧ Z.Warmed39 U.vm ∧ U.heap = h0) (fun _ _ _ _ _ => True) (fun _ U o U' => ∃ v L, o = .returned v ∧ Q2_1 Z  h0 n0 v U'.heap L ∧ FrameEnd U o U' L ({ frames := 1, cells := 0, slots := 0, locals := 14 } : Room).cells ({ frames := 1, cells := 0, slots := 0, locals := 14 } : Room).slots) := by
  refine MetFree.of_bodySF (plainFor_of_name pn_java_lang_Long) hisR ?_
  intro p e s m args below meth c s₁ Bd hml0 hP hK
  obtain ⟨rfl, hZ, hh⟩ := hP
  have hx := Bd.exec
  have hby := Bd.bytes
  have hml : c.maxLocals = 3 := hml0
  have hown : s.vm.findClass "java/lang/Long" = some m.cls := findClass_of_methodNamed Bd.named
  have hnm := (name_of_methodNamed Bd.named Bd.method).1
  have X0 : Stand p l e ({ frames := 1, cells := 0, slots := 0, locals := 14 } : Room) s m #[(.long (1 : Int64))] below meth c s₁ [] 0 0 := Stand.of_body Bd
  have e0 : s₁.heap = h0 := by rw [← hh, Bd.state]; rfl
  have N0 := Fr.nil n0
  show Goes p e below (fun s₂ o => ∃ v L, o = .returned v ∧ Q2_1 Z  h0 n0 v s₂.heap L ∧ FrameEnd s o s₂ L ({ frames := 1, cells := 0, slots := 0, locals := 14 } : Room).cells ({ frames := 1, cells := 0, slots := 0, locals := 14 } : Room).slots) (s₁.setTop (entryFrame m #[(.long (1 : Int64))] 3))
  refine Goes.cast (ef_2_1 m (1 : Int64)) ?_
  refine Goes.via (B := s₁.setTop (mkF m 1 #[.val (.long (1 : Int64)), .second, .unset] [(.long (1 : Int64))])) (fun t k => XS.lloadN X0.here hx rfl (hb hby d2_0) rfl k) ?_
  refine Goes.via (B := s₁.setTop (mkF m 3 #[.val (.long (1 : Int64)), .second, .unset] [(.int (32 : Int32)), (.long (1 : Int64))])) (fun t k => XS.bipush X0.here hx rfl (hb hby d2_1) k) ?_
  refine Goes.via (B := s₁.setTop (mkF m 4 #[.val (.long (1 : Int64)), .second, .unset] [(.long (((1 : Int64).toUInt64 >>> ((32 : Int32) &&& 0x3f).toInt64.toUInt64).toInt64))])) (fun t k => XS.lushr X0.here hx rfl (hb hby d2_3) rfl k) ?_
  rw [show (((1 : Int64).toUInt64 >>> ((32 : Int32) &&& 0x3f).toInt64.toUInt64).toInt64) = (0 : Int64) from by decide +kernel]
  refine Goes.via (B := s₁.setTop (mkF m 5 #[.val (.long (1 : Int64)), .second, .unset] [(.int ((0 : Int64).toInt32))])) (fun t k => XS.l2i X0.here hx rfl (hb hby d2_4) rfl k) ?_
  rw [show ((0 : Int64).toInt32) = (0 : Int32) from by decide +kernel]
  refine Goes.via (B := s₁.setTop (mkF m 6 #[.val (.long (1 : Int64)), .second, .val (.int (0 : Int32))] [])) (fun t k => XS.istoreN X0.here hx rfl (hb hby d2_5) rfl (l' := #[.val (.long (1 : Int64)), .second, .val (.int (0 : Int32))]) rfl k) ?_
  refine Goes.via (B := s₁.setTop (mkF m 7 #[.val (.long (1 : Int64)), .second, .val (.int (0 : Int32))] [(.int (0 : Int32))])) (fun t k => XS.iloadN X0.here hx rfl (hb hby d2_6) rfl k) ?_
  refine Goes.via (B := s₁.setTop (mkF m 10 #[.val (.long (1 : Int64)), .second, .val (.int (0 : Int32))] [])) (fun t k => XS.ifNo X0.here hx rfl (hb hby d2_7) rfl ((if0 _ _).trans (teq (by decide : (0 : Int32) = (0 : Int32))).2) k) ?_
  refine Goes.via (B := s₁.setTop (mkF m 12 #[.val (.long (1 : Int64)), .second, .val (.int (0 : Int32))] [(.int (32 : Int32))])) (fun t k => XS.bipush X0.here hx rfl (hb hby d2_10) k) ?_
  refine Goes.via (B := s₁.setTop (mkF m 13 #[.val (.long (1 : Int64)), .second, .val (.int (0 : Int32))] [(.long (1 : Int64)), (.int (32 : Int32))])) (fun t k => XS.lloadN X0.here hx rfl (hb hby d2_12) rfl k) ?_
  refine Goes.via (B := s₁.setTop (mkF m 14 #[.val (.long (1 : Int64)), .second, .val (.int (0 : Int32))] [(.int ((1 : Int64).toInt32)), (.int (32 : Int32))])) (fun t k => XS.l2i X0.here hx rfl (hb hby d2_13) rfl k) ?_
  rw [show ((1 : Int64).toInt32) = (1 : Int32) from by decide +kernel]
  obtain ⟨_, _, ⟨T1, L1, kk1, nn1⟩, -, X1, ⟨Lc1, hQ1, l1, y1, z1⟩, st1⟩ := Jvm.LawKit.callS X0 hx (y := (⟨"java/lang/Integer", "numberOfLeadingZeros", "(I)I"⟩ : MethodName)) hown (mvT hZ (hw _ (List.mem_of_getElem? (i := 62) rfl))) (mvT hZ (hw _ (List.mem_of_getElem? (i := 63) rfl))) (mvT hZ (hw _ (List.mem_of_getElem? (i := 64) rfl))) (mvT hZ (hw _ (List.mem_of_getElem? (i := 65) rfl))) (by decide) (backOf (W := 1) (rm1_1 l Z a0 hw []  h0 n0 Z0 ) hZ (hw _ (List.mem_of_getElem? (i := 65) rfl)) (hw _ (List.mem_of_getElem? (i := 64) rfl)) (by decide) (by decide)) (g := (mkF m 14 #[.val (.long (1 : Int64)), .second, .val (.int (0 : Int32))] [(.int (1 : Int32)), (.int (32 : Int32))])) rfl (by rw [hml]; rfl) (argsL := [(.int (1 : Int32))]) (rest := [(.int (32 : Int32))]) (lenOf pd__I_I rfl) rfl (by show 2 * 0 + _ ≤ _; exact Nat.le_of_eq rfl) (hb hby d2_14) (fun _ _ => ⟨rfl, e0, (by decide : 0 + 0 ≤ _), (by decide : 0 + 0 ≤ _)⟩)
  dsimp only [Pt.U, Pt.locs, Pt.cells, Pt.slots] at X1 l1 y1 z1 st1 hQ1
  subst l1 y1 z1
  obtain ⟨rfl, Nq1, hq1⟩ := hQ1
  have N1 := Fr.app N0 Nq1
  refine Goes.via (B := T1.setTop (mkF m 17 #[.val (.long (1 : Int64)), .second, .val (.int (0 : Int32))] [(.int (31 : Int32)), (.int (32 : Int32))])) st1 ?_
  refine Goes.via (B := T1.setTop (mkF m 18 #[.val (.long (1 : Int64)), .second, .val (.int (0 : Int32))] [(.int (63 : Int32))])) (fun t k => XS.iadd X1.here hx rfl (hb hby d2_17) rfl k) ?_
  refine Goes.via (B := T1.setTop (mkF m 25 #[.val (.long (1 : Int64)), .second, .val (.int (0 : Int32))] [(.int (63 : Int32))])) (fun t k => XS.goto X1.here hx rfl (pc0 := 18) (pc' := 25) rfl (hb hby d2_18) (by decide) (by decide) k) ?_
  exact own_out X1 (v := some (.int (63 : Int32))) (fun h => by rw [Bd.returns] at h; cases h) Bd.notSynchronized (fun fs hr => retOut X1 hx Bd.returns rfl (Or.inl ⟨rfl, Or.inl rfl, _, rfl⟩) (hb hby d2_25) hr) ⟨rfl, N1, hq1⟩ (by decide) (by decide)
theorem ef_2_2 (m : MethodId) (x0 : Int64) : entryFrame m #[(.long x0)] 3 = mkF m 0 #[.val (.long x0), .second, .unset] [] := by first | (simp [entryFrame, mkF, argsToLocals, Value.category]; done) | rfl
def Q2_2 (Z : State)  (h0 : Heap) (n0 : Nat) (v : Option Value) (h : Heap) (L : List Loc) : Prop := v = some (.int (62 : Int32)) ∧ Fr n0 L ∧ h = h0
set_option maxRecDepth 65536 in
set_option maxHeartbeats 40000000 in
theorem rm2_2 (l : Launch) (Z : State) (a0 : Array Value) (hw : ∀ d ∈ tables_1, d.before a0 Z = true) (ws : List Jvm.Cond)  (h0 : Heap) (n0 : Nat) (Z0 : n0 ≤ h0.size)  :
    MetFree l (⟨"java/lang/Long", "numberOfLeadingZeros", "(J)I"⟩ : MethodName) (head1 (Jvm.Cond.code (⟨"java/lang/Long", "numberOfLeadingZeros", "(J)I"⟩ : MethodName) jdk_35_method_48_code 3 (some .int) :: ws) ({ frames := 1, cells := 0, slots := 0, locals := 14 } : Room)) (fun a U => a = #[(.long (2 : Int64))] ∧ Z.Warmed39 U.vm ∧ U.heap = h0) (fun _ _ _ _ _ => True) (fun _ U o U' => ∃ v L, o = .returned v ∧ Q2_2 Z  h0 n0 v U'.heap L ∧ FrameEnd U o U' L ({ frames := 1, cells := 0, slots := 0, locals := 14 } : Room).cells ({ frames := 1, cells := 0, slots := 0, locals := 14 } : Room).slots) := by
  refine MetFree.of_bodySF (plainFor_of_name pn_java_lang_Long) hisR ?_
  intro p e s m args below meth c s₁ Bd hml0 hP hK
  obtain ⟨rfl, hZ, hh⟩ := hP
  have hx := Bd.exec
  have hby := Bd.bytes
  have hml : c.maxLocals = 3 := hml0
  have hown : s.vm.findClass "java/lang/Long" = some m.cls := findClass_of_methodNamed Bd.named
  have hnm := (name_of_methodNamed Bd.named Bd.method).1
  have X0 : Stand p l e ({ frames := 1, cells := 0, slots := 0, locals := 14 } : Room) s m #[(.long (2 : Int64))] below meth c s₁ [] 0 0 := Stand.of_body Bd
  have e0 : s₁.heap = h0 := by rw [← hh, Bd.state]; rfl
  have N0 := Fr.nil n0
  show Goes p e below (fun s₂ o => ∃ v L, o = .returned v ∧ Q2_2 Z  h0 n0 v s₂.heap L ∧ FrameEnd s o s₂ L ({ frames := 1, cells := 0, slots := 0, locals := 14 } : Room).cells ({ frames := 1, cells := 0, slots := 0, locals := 14 } : Room).slots) (s₁.setTop (entryFrame m #[(.long (2 : Int64))] 3))
  refine Goes.cast (ef_2_2 m (2 : Int64)) ?_
  refine Goes.via (B := s₁.setTop (mkF m 1 #[.val (.long (2 : Int64)), .second, .unset] [(.long (2 : Int64))])) (fun t k => XS.lloadN X0.here hx rfl (hb hby d2_0) rfl k) ?_
  refine Goes.via (B := s₁.setTop (mkF m 3 #[.val (.long (2 : Int64)), .second, .unset] [(.int (32 : Int32)), (.long (2 : Int64))])) (fun t k => XS.bipush X0.here hx rfl (hb hby d2_1) k) ?_
  refine Goes.via (B := s₁.setTop (mkF m 4 #[.val (.long (2 : Int64)), .second, .unset] [(.long (((2 : Int64).toUInt64 >>> ((32 : Int32) &&& 0x3f).toInt64.toUInt64).toInt64))])) (fun t k => XS.lushr X0.here hx rfl (hb hby d2_3) rfl k) ?_
  rw [show (((2 : Int64).toUInt64 >>> ((32 : Int32) &&& 0x3f).toInt64.toUInt64).toInt64) = (0 : Int64) from by decide +kernel]
  refine Goes.via (B := s₁.setTop (mkF m 5 #[.val (.long (2 : Int64)), .second, .unset] [(.int ((0 : Int64).toInt32))])) (fun t k => XS.l2i X0.here hx rfl (hb hby d2_4) rfl k) ?_
  rw [show ((0 : Int64).toInt32) = (0 : Int32) from by decide +kernel]
  refine Goes.via (B := s₁.setTop (mkF m 6 #[.val (.long (2 : Int64)), .second, .val (.int (0 : Int32))] [])) (fun t k => XS.istoreN X0.here hx rfl (hb hby d2_5) rfl (l' := #[.val (.long (2 : Int64)), .second, .val (.int (0 : Int32))]) rfl k) ?_
  refine Goes.via (B := s₁.setTop (mkF m 7 #[.val (.long (2 : Int64)), .second, .val (.int (0 : Int32))] [(.int (0 : Int32))])) (fun t k => XS.iloadN X0.here hx rfl (hb hby d2_6) rfl k) ?_
  refine Goes.via (B := s₁.setTop (mkF m 10 #[.val (.long (2 : Int64)), .second, .val (.int (0 : Int32))] [])) (fun t k => XS.ifNo X0.here hx rfl (hb hby d2_7) rfl ((if0 _ _).trans (teq (by decide : (0 : Int32) = (0 : Int32))).2) k) ?_
  refine Goes.via (B := s₁.setTop (mkF m 12 #[.val (.long (2 : Int64)), .second, .val (.int (0 : Int32))] [(.int (32 : Int32))])) (fun t k => XS.bipush X0.here hx rfl (hb hby d2_10) k) ?_
  refine Goes.via (B := s₁.setTop (mkF m 13 #[.val (.long (2 : Int64)), .second, .val (.int (0 : Int32))] [(.long (2 : Int64)), (.int (32 : Int32))])) (fun t k => XS.lloadN X0.here hx rfl (hb hby d2_12) rfl k) ?_
  refine Goes.via (B := s₁.setTop (mkF m 14 #[.val (.long (2 : Int64)), .second, .val (.int (0 : Int32))] [(.int ((2 : Int64).toInt32)), (.int (32 : Int32))])) (fun t k => XS.l2i X0.here hx rfl (hb hby d2_13) rfl k) ?_
  rw [show ((2 : Int64).toInt32) = (2 : Int32) from by decide +kernel]
  obtain ⟨_, _, ⟨T1, L1, kk1, nn1⟩, -, X1, ⟨Lc1, hQ1, l1, y1, z1⟩, st1⟩ := Jvm.LawKit.callS X0 hx (y := (⟨"java/lang/Integer", "numberOfLeadingZeros", "(I)I"⟩ : MethodName)) hown (mvT hZ (hw _ (List.mem_of_getElem? (i := 62) rfl))) (mvT hZ (hw _ (List.mem_of_getElem? (i := 63) rfl))) (mvT hZ (hw _ (List.mem_of_getElem? (i := 64) rfl))) (mvT hZ (hw _ (List.mem_of_getElem? (i := 65) rfl))) (by decide) (backOf (W := 1) (rm1_2 l Z a0 hw []  h0 n0 Z0 ) hZ (hw _ (List.mem_of_getElem? (i := 65) rfl)) (hw _ (List.mem_of_getElem? (i := 64) rfl)) (by decide) (by decide)) (g := (mkF m 14 #[.val (.long (2 : Int64)), .second, .val (.int (0 : Int32))] [(.int (2 : Int32)), (.int (32 : Int32))])) rfl (by rw [hml]; rfl) (argsL := [(.int (2 : Int32))]) (rest := [(.int (32 : Int32))]) (lenOf pd__I_I rfl) rfl (by show 2 * 0 + _ ≤ _; exact Nat.le_of_eq rfl) (hb hby d2_14) (fun _ _ => ⟨rfl, e0, (by decide : 0 + 0 ≤ _), (by decide : 0 + 0 ≤ _)⟩)
  dsimp only [Pt.U, Pt.locs, Pt.cells, Pt.slots] at X1 l1 y1 z1 st1 hQ1
  subst l1 y1 z1
  obtain ⟨rfl, Nq1, hq1⟩ := hQ1
  have N1 := Fr.app N0 Nq1
  refine Goes.via (B := T1.setTop (mkF m 17 #[.val (.long (2 : Int64)), .second, .val (.int (0 : Int32))] [(.int (30 : Int32)), (.int (32 : Int32))])) st1 ?_
  refine Goes.via (B := T1.setTop (mkF m 18 #[.val (.long (2 : Int64)), .second, .val (.int (0 : Int32))] [(.int (62 : Int32))])) (fun t k => XS.iadd X1.here hx rfl (hb hby d2_17) rfl k) ?_
  refine Goes.via (B := T1.setTop (mkF m 25 #[.val (.long (2 : Int64)), .second, .val (.int (0 : Int32))] [(.int (62 : Int32))])) (fun t k => XS.goto X1.here hx rfl (pc0 := 18) (pc' := 25) rfl (hb hby d2_18) (by decide) (by decide) k) ?_
  exact own_out X1 (v := some (.int (62 : Int32))) (fun h => by rw [Bd.returns] at h; cases h) Bd.notSynchronized (fun fs hr => retOut X1 hx Bd.returns rfl (Or.inl ⟨rfl, Or.inl rfl, _, rfl⟩) (hb hby d2_25) hr) ⟨rfl, N1, hq1⟩ (by decide) (by decide)
theorem ef_2_3 (m : MethodId) (x0 : Int64) : entryFrame m #[(.long x0)] 3 = mkF m 0 #[.val (.long x0), .second, .unset] [] := by first | (simp [entryFrame, mkF, argsToLocals, Value.category]; done) | rfl
def Q2_3 (Z : State)  (h0 : Heap) (n0 : Nat) (v : Option Value) (h : Heap) (L : List Loc) : Prop := v = some (.int (62 : Int32)) ∧ Fr n0 L ∧ h = h0
set_option maxRecDepth 65536 in
set_option maxHeartbeats 40000000 in
theorem rm2_3 (l : Launch) (Z : State) (a0 : Array Value) (hw : ∀ d ∈ tables_1, d.before a0 Z = true) (ws : List Jvm.Cond)  (h0 : Heap) (n0 : Nat) (Z0 : n0 ≤ h0.size)  :
    MetFree l (⟨"java/lang/Long", "numberOfLeadingZeros", "(J)I"⟩ : MethodName) (head1 (Jvm.Cond.code (⟨"java/lang/Long", "numberOfLeadingZeros", "(J)I"⟩ : MethodName) jdk_35_method_48_code 3 (some .int) :: ws) ({ frames := 1, cells := 0, slots := 0, locals := 14 } : Room)) (fun a U => a = #[(.long (3 : Int64))] ∧ Z.Warmed39 U.vm ∧ U.heap = h0) (fun _ _ _ _ _ => True) (fun _ U o U' => ∃ v L, o = .returned v ∧ Q2_3 Z  h0 n0 v U'.heap L ∧ FrameEnd U o U' L ({ frames := 1, cells := 0, slots := 0, locals := 14 } : Room).cells ({ frames := 1, cells := 0, slots := 0, locals := 14 } : Room).slots) := by
  refine MetFree.of_bodySF (plainFor_of_name pn_java_lang_Long) hisR ?_
  intro p e s m args below meth c s₁ Bd hml0 hP hK
  obtain ⟨rfl, hZ, hh⟩ := hP
  have hx := Bd.exec
  have hby := Bd.bytes
  have hml : c.maxLocals = 3 := hml0
  have hown : s.vm.findClass "java/lang/Long" = some m.cls := findClass_of_methodNamed Bd.named
  have hnm := (name_of_methodNamed Bd.named Bd.method).1
  have X0 : Stand p l e ({ frames := 1, cells := 0, slots := 0, locals := 14 } : Room) s m #[(.long (3 : Int64))] below meth c s₁ [] 0 0 := Stand.of_body Bd
  have e0 : s₁.heap = h0 := by rw [← hh, Bd.state]; rfl
  have N0 := Fr.nil n0
  show Goes p e below (fun s₂ o => ∃ v L, o = .returned v ∧ Q2_3 Z  h0 n0 v s₂.heap L ∧ FrameEnd s o s₂ L ({ frames := 1, cells := 0, slots := 0, locals := 14 } : Room).cells ({ frames := 1, cells := 0, slots := 0, locals := 14 } : Room).slots) (s₁.setTop (entryFrame m #[(.long (3 : Int64))] 3))
  refine Goes.cast (ef_2_3 m (3 : Int64)) ?_
  refine Goes.via (B := s₁.setTop (mkF m 1 #[.val (.long (3 : Int64)), .second, .unset] [(.long (3 : Int64))])) (fun t k => XS.lloadN X0.here hx rfl (hb hby d2_0) rfl k) ?_
  refine Goes.via (B := s₁.setTop (mkF m 3 #[.val (.long (3 : Int64)), .second, .unset] [(.int (32 : Int32)), (.long (3 : Int64))])) (fun t k => XS.bipush X0.here hx rfl (hb hby d2_1) k) ?_
  refine Goes.via (B := s₁.setTop (mkF m 4 #[.val (.long (3 : Int64)), .second, .unset] [(.long (((3 : Int64).toUInt64 >>> ((32 : Int32) &&& 0x3f).toInt64.toUInt64).toInt64))])) (fun t k => XS.lushr X0.here hx rfl (hb hby d2_3) rfl k) ?_
  rw [show (((3 : Int64).toUInt64 >>> ((32 : Int32) &&& 0x3f).toInt64.toUInt64).toInt64) = (0 : Int64) from by decide +kernel]
  refine Goes.via (B := s₁.setTop (mkF m 5 #[.val (.long (3 : Int64)), .second, .unset] [(.int ((0 : Int64).toInt32))])) (fun t k => XS.l2i X0.here hx rfl (hb hby d2_4) rfl k) ?_
  rw [show ((0 : Int64).toInt32) = (0 : Int32) from by decide +kernel]
  refine Goes.via (B := s₁.setTop (mkF m 6 #[.val (.long (3 : Int64)), .second, .val (.int (0 : Int32))] [])) (fun t k => XS.istoreN X0.here hx rfl (hb hby d2_5) rfl (l' := #[.val (.long (3 : Int64)), .second, .val (.int (0 : Int32))]) rfl k) ?_
  refine Goes.via (B := s₁.setTop (mkF m 7 #[.val (.long (3 : Int64)), .second, .val (.int (0 : Int32))] [(.int (0 : Int32))])) (fun t k => XS.iloadN X0.here hx rfl (hb hby d2_6) rfl k) ?_
  refine Goes.via (B := s₁.setTop (mkF m 10 #[.val (.long (3 : Int64)), .second, .val (.int (0 : Int32))] [])) (fun t k => XS.ifNo X0.here hx rfl (hb hby d2_7) rfl ((if0 _ _).trans (teq (by decide : (0 : Int32) = (0 : Int32))).2) k) ?_
  refine Goes.via (B := s₁.setTop (mkF m 12 #[.val (.long (3 : Int64)), .second, .val (.int (0 : Int32))] [(.int (32 : Int32))])) (fun t k => XS.bipush X0.here hx rfl (hb hby d2_10) k) ?_
  refine Goes.via (B := s₁.setTop (mkF m 13 #[.val (.long (3 : Int64)), .second, .val (.int (0 : Int32))] [(.long (3 : Int64)), (.int (32 : Int32))])) (fun t k => XS.lloadN X0.here hx rfl (hb hby d2_12) rfl k) ?_
  refine Goes.via (B := s₁.setTop (mkF m 14 #[.val (.long (3 : Int64)), .second, .val (.int (0 : Int32))] [(.int ((3 : Int64).toInt32)), (.int (32 : Int32))])) (fun t k => XS.l2i X0.here hx rfl (hb hby d2_13) rfl k) ?_
  rw [show ((3 : Int64).toInt32) = (3 : Int32) from by decide +kernel]
  obtain ⟨_, _, ⟨T1, L1, kk1, nn1⟩, -, X1, ⟨Lc1, hQ1, l1, y1, z1⟩, st1⟩ := Jvm.LawKit.callS X0 hx (y := (⟨"java/lang/Integer", "numberOfLeadingZeros", "(I)I"⟩ : MethodName)) hown (mvT hZ (hw _ (List.mem_of_getElem? (i := 62) rfl))) (mvT hZ (hw _ (List.mem_of_getElem? (i := 63) rfl))) (mvT hZ (hw _ (List.mem_of_getElem? (i := 64) rfl))) (mvT hZ (hw _ (List.mem_of_getElem? (i := 65) rfl))) (by decide) (backOf (W := 1) (rm1_3 l Z a0 hw []  h0 n0 Z0 ) hZ (hw _ (List.mem_of_getElem? (i := 65) rfl)) (hw _ (List.mem_of_getElem? (i := 64) rfl)) (by decide) (by decide)) (g := (mkF m 14 #[.val (.long (3 : Int64)), .second, .val (.int (0 : Int32))] [(.int (3 : Int32)), (.int (32 : Int32))])) rfl (by rw [hml]; rfl) (argsL := [(.int (3 : Int32))]) (rest := [(.int (32 : Int32))]) (lenOf pd__I_I rfl) rfl (by show 2 * 0 + _ ≤ _; exact Nat.le_of_eq rfl) (hb hby d2_14) (fun _ _ => ⟨rfl, e0, (by decide : 0 + 0 ≤ _), (by decide : 0 + 0 ≤ _)⟩)
  dsimp only [Pt.U, Pt.locs, Pt.cells, Pt.slots] at X1 l1 y1 z1 st1 hQ1
  subst l1 y1 z1
  obtain ⟨rfl, Nq1, hq1⟩ := hQ1
  have N1 := Fr.app N0 Nq1
  refine Goes.via (B := T1.setTop (mkF m 17 #[.val (.long (3 : Int64)), .second, .val (.int (0 : Int32))] [(.int (30 : Int32)), (.int (32 : Int32))])) st1 ?_
  refine Goes.via (B := T1.setTop (mkF m 18 #[.val (.long (3 : Int64)), .second, .val (.int (0 : Int32))] [(.int (62 : Int32))])) (fun t k => XS.iadd X1.here hx rfl (hb hby d2_17) rfl k) ?_
  refine Goes.via (B := T1.setTop (mkF m 25 #[.val (.long (3 : Int64)), .second, .val (.int (0 : Int32))] [(.int (62 : Int32))])) (fun t k => XS.goto X1.here hx rfl (pc0 := 18) (pc' := 25) rfl (hb hby d2_18) (by decide) (by decide) k) ?_
  exact own_out X1 (v := some (.int (62 : Int32))) (fun h => by rw [Bd.returns] at h; cases h) Bd.notSynchronized (fun fs hr => retOut X1 hx Bd.returns rfl (Or.inl ⟨rfl, Or.inl rfl, _, rfl⟩) (hb hby d2_25) hr) ⟨rfl, N1, hq1⟩ (by decide) (by decide)
theorem d3_0 : decode jdk_29_method_65_code 0 = .ok (.iload_n 0, 1) := by decide +kernel
theorem d3_1 : decode jdk_29_method_65_code 1 = .ok (.iload_n 1, 1) := by decide +kernel
theorem d3_2 : decode jdk_29_method_65_code 2 = .ok (.if_icmp .lt 7, 3) := by decide +kernel
theorem d3_5 : decode jdk_29_method_65_code 5 = .ok (.iload_n 0, 1) := by decide +kernel
theorem d3_6 : decode jdk_29_method_65_code 6 = .ok (.goto 4, 3) := by decide +kernel
theorem d3_10 : decode jdk_29_method_65_code 10 = .ok (.ireturn, 1) := by decide +kernel
theorem ef_3_0 (m : MethodId) (x0 : Int32) (x1 : Int32) : entryFrame m #[(.int x0), (.int x1)] 2 = mkF m 0 #[.val (.int x0), .val (.int x1)] [] := by first | (simp [entryFrame, mkF, argsToLocals, Value.category]; done) | rfl
def Q3_0 (Z : State)  (h0 : Heap) (n0 : Nat) (v : Option Value) (h : Heap) (L : List Loc) : Prop := v = some (.int (1 : Int32)) ∧ Fr n0 L ∧ h = h0
set_option maxRecDepth 65536 in
set_option maxHeartbeats 40000000 in
theorem rm3_0 (l : Launch) (Z : State) (a0 : Array Value) (hw : ∀ d ∈ tables_1, d.before a0 Z = true) (ws : List Jvm.Cond)  (h0 : Heap) (n0 : Nat) (Z0 : n0 ≤ h0.size)  :
    MetFree l (⟨"java/lang/Math", "max", "(II)I"⟩ : MethodName) (head1 (Jvm.Cond.code (⟨"java/lang/Math", "max", "(II)I"⟩ : MethodName) jdk_29_method_65_code 2 (some .int) :: ws) ({ frames := 0, cells := 0, slots := 0, locals := 0 } : Room)) (fun a U => a = #[(.int (1 : Int32)), (.int (0 : Int32))] ∧ Z.Warmed39 U.vm ∧ U.heap = h0) (fun _ _ _ _ _ => True) (fun _ U o U' => ∃ v L, o = .returned v ∧ Q3_0 Z  h0 n0 v U'.heap L ∧ FrameEnd U o U' L ({ frames := 0, cells := 0, slots := 0, locals := 0 } : Room).cells ({ frames := 0, cells := 0, slots := 0, locals := 0 } : Room).slots) := by
  refine MetFree.of_bodySF (show plainFor (⟨"java/lang/Math", "max", "(II)I"⟩ : MethodName) = true by decide +kernel) hisR ?_
  intro p e s m args below meth c s₁ Bd hml0 hP hK
  obtain ⟨rfl, hZ, hh⟩ := hP
  have hx := Bd.exec
  have hby := Bd.bytes
  have hml : c.maxLocals = 2 := hml0
  have hown : s.vm.findClass "java/lang/Math" = some m.cls := findClass_of_methodNamed Bd.named
  have hnm := (name_of_methodNamed Bd.named Bd.method).1
  have X0 : Stand p l e ({ frames := 0, cells := 0, slots := 0, locals := 0 } : Room) s m #[(.int (1 : Int32)), (.int (0 : Int32))] below meth c s₁ [] 0 0 := Stand.of_body Bd
  have e0 : s₁.heap = h0 := by rw [← hh, Bd.state]; rfl
  have N0 := Fr.nil n0
  show Goes p e below (fun s₂ o => ∃ v L, o = .returned v ∧ Q3_0 Z  h0 n0 v s₂.heap L ∧ FrameEnd s o s₂ L ({ frames := 0, cells := 0, slots := 0, locals := 0 } : Room).cells ({ frames := 0, cells := 0, slots := 0, locals := 0 } : Room).slots) (s₁.setTop (entryFrame m #[(.int (1 : Int32)), (.int (0 : Int32))] 2))
  refine Goes.cast (ef_3_0 m (1 : Int32) (0 : Int32)) ?_
  refine Goes.via (B := s₁.setTop (mkF m 1 #[.val (.int (1 : Int32)), .val (.int (0 : Int32))] [(.int (1 : Int32))])) (fun t k => XS.iloadN X0.here hx rfl (hb hby d3_0) rfl k) ?_
  refine Goes.via (B := s₁.setTop (mkF m 2 #[.val (.int (1 : Int32)), .val (.int (0 : Int32))] [(.int (0 : Int32)), (.int (1 : Int32))])) (fun t k => XS.iloadN X0.here hx rfl (hb hby d3_1) rfl k) ?_
  refine Goes.via (B := s₁.setTop (mkF m 5 #[.val (.int (1 : Int32)), .val (.int (0 : Int32))] [])) (fun t k => XS.icmpNo X0.here hx rfl (hb hby d3_2) rfl (flt (by decide : ¬ (1 : Int32) < (0 : Int32))).1 k) ?_
  refine Goes.via (B := s₁.setTop (mkF m 6 #[.val (.int (1 : Int32)), .val (.int (0 : Int32))] [(.int (1 : Int32))])) (fun t k => XS.iloadN X0.here hx rfl (hb hby d3_5) rfl k) ?_
  refine Goes.via (B := s₁.setTop (mkF m 10 #[.val (.int (1 : Int32)), .val (.int (0 : Int32))] [(.int (1 : Int32))])) (fun t k => XS.goto X0.here hx rfl (pc0 := 6) (pc' := 10) rfl (hb hby d3_6) (by decide) (by decide) k) ?_
  exact own_out X0 (v := some (.int (1 : Int32))) (fun h => by rw [Bd.returns] at h; cases h) Bd.notSynchronized (fun fs hr => retOut X0 hx Bd.returns rfl (Or.inl ⟨rfl, Or.inl rfl, _, rfl⟩) (hb hby d3_10) hr) ⟨rfl, N0, e0⟩ (by decide) (by decide)
theorem ef_3_1 (m : MethodId) (x0 : Int32) (x1 : Int32) : entryFrame m #[(.int x0), (.int x1)] 2 = mkF m 0 #[.val (.int x0), .val (.int x1)] [] := by first | (simp [entryFrame, mkF, argsToLocals, Value.category]; done) | rfl
def Q3_1 (Z : State)  (h0 : Heap) (n0 : Nat) (v : Option Value) (h : Heap) (L : List Loc) : Prop := v = some (.int (1 : Int32)) ∧ Fr n0 L ∧ h = h0
set_option maxRecDepth 65536 in
set_option maxHeartbeats 40000000 in
theorem rm3_1 (l : Launch) (Z : State) (a0 : Array Value) (hw : ∀ d ∈ tables_1, d.before a0 Z = true) (ws : List Jvm.Cond)  (h0 : Heap) (n0 : Nat) (Z0 : n0 ≤ h0.size)  :
    MetFree l (⟨"java/lang/Math", "max", "(II)I"⟩ : MethodName) (head1 (Jvm.Cond.code (⟨"java/lang/Math", "max", "(II)I"⟩ : MethodName) jdk_29_method_65_code 2 (some .int) :: ws) ({ frames := 0, cells := 0, slots := 0, locals := 0 } : Room)) (fun a U => a = #[(.int (1 : Int32)), (.int (1 : Int32))] ∧ Z.Warmed39 U.vm ∧ U.heap = h0) (fun _ _ _ _ _ => True) (fun _ U o U' => ∃ v L, o = .returned v ∧ Q3_1 Z  h0 n0 v U'.heap L ∧ FrameEnd U o U' L ({ frames := 0, cells := 0, slots := 0, locals := 0 } : Room).cells ({ frames := 0, cells := 0, slots := 0, locals := 0 } : Room).slots) := by
  refine MetFree.of_bodySF (show plainFor (⟨"java/lang/Math", "max", "(II)I"⟩ : MethodName) = true by decide +kernel) hisR ?_
  intro p e s m args below meth c s₁ Bd hml0 hP hK
  obtain ⟨rfl, hZ, hh⟩ := hP
  have hx := Bd.exec
  have hby := Bd.bytes
  have hml : c.maxLocals = 2 := hml0
  have hown : s.vm.findClass "java/lang/Math" = some m.cls := findClass_of_methodNamed Bd.named
  have hnm := (name_of_methodNamed Bd.named Bd.method).1
  have X0 : Stand p l e ({ frames := 0, cells := 0, slots := 0, locals := 0 } : Room) s m #[(.int (1 : Int32)), (.int (1 : Int32))] below meth c s₁ [] 0 0 := Stand.of_body Bd
  have e0 : s₁.heap = h0 := by rw [← hh, Bd.state]; rfl
  have N0 := Fr.nil n0
  show Goes p e below (fun s₂ o => ∃ v L, o = .returned v ∧ Q3_1 Z  h0 n0 v s₂.heap L ∧ FrameEnd s o s₂ L ({ frames := 0, cells := 0, slots := 0, locals := 0 } : Room).cells ({ frames := 0, cells := 0, slots := 0, locals := 0 } : Room).slots) (s₁.setTop (entryFrame m #[(.int (1 : Int32)), (.int (1 : Int32))] 2))
  refine Goes.cast (ef_3_1 m (1 : Int32) (1 : Int32)) ?_
  refine Goes.via (B := s₁.setTop (mkF m 1 #[.val (.int (1 : Int32)), .val (.int (1 : Int32))] [(.int (1 : Int32))])) (fun t k => XS.iloadN X0.here hx rfl (hb hby d3_0) rfl k) ?_
  refine Goes.via (B := s₁.setTop (mkF m 2 #[.val (.int (1 : Int32)), .val (.int (1 : Int32))] [(.int (1 : Int32)), (.int (1 : Int32))])) (fun t k => XS.iloadN X0.here hx rfl (hb hby d3_1) rfl k) ?_
  refine Goes.via (B := s₁.setTop (mkF m 5 #[.val (.int (1 : Int32)), .val (.int (1 : Int32))] [])) (fun t k => XS.icmpNo X0.here hx rfl (hb hby d3_2) rfl (flt (by decide : ¬ (1 : Int32) < (1 : Int32))).1 k) ?_
  refine Goes.via (B := s₁.setTop (mkF m 6 #[.val (.int (1 : Int32)), .val (.int (1 : Int32))] [(.int (1 : Int32))])) (fun t k => XS.iloadN X0.here hx rfl (hb hby d3_5) rfl k) ?_
  refine Goes.via (B := s₁.setTop (mkF m 10 #[.val (.int (1 : Int32)), .val (.int (1 : Int32))] [(.int (1 : Int32))])) (fun t k => XS.goto X0.here hx rfl (pc0 := 6) (pc' := 10) rfl (hb hby d3_6) (by decide) (by decide) k) ?_
  exact own_out X0 (v := some (.int (1 : Int32))) (fun h => by rw [Bd.returns] at h; cases h) Bd.notSynchronized (fun fs hr => retOut X0 hx Bd.returns rfl (Or.inl ⟨rfl, Or.inl rfl, _, rfl⟩) (hb hby d3_10) hr) ⟨rfl, N0, e0⟩ (by decide) (by decide)
theorem d4_0 : decode prog_62_method_7_code 0 = .ok (.bipush 64, 2) := by decide +kernel
theorem d4_2 : decode prog_62_method_7_code 2 = .ok (.lload_n 0, 1) := by decide +kernel
theorem d4_3 : decode prog_62_method_7_code 3 = .ok (.invokestatic 77, 3) := by decide +kernel
theorem d4_6 : decode prog_62_method_7_code 6 = .ok (.isub, 1) := by decide +kernel
theorem d4_7 : decode prog_62_method_7_code 7 = .ok (.istore_n 2, 1) := by decide +kernel
theorem d4_8 : decode prog_62_method_7_code 8 = .ok (.iload_n 2, 1) := by decide +kernel
theorem d4_9 : decode prog_62_method_7_code 9 = .ok (.bipush 64, 2) := by decide +kernel
theorem d4_11 : decode prog_62_method_7_code 11 = .ok (.if_icmp .ne 8, 3) := by decide +kernel
theorem d4_19 : decode prog_62_method_7_code 19 = .ok (.iconst 1, 1) := by decide +kernel
theorem d4_20 : decode prog_62_method_7_code 20 = .ok (.iload_n 2, 1) := by decide +kernel
theorem d4_21 : decode prog_62_method_7_code 21 = .ok (.bipush 6, 2) := by decide +kernel
theorem d4_23 : decode prog_62_method_7_code 23 = .ok (.iadd, 1) := by decide +kernel
theorem d4_24 : decode prog_62_method_7_code 24 = .ok (.bipush 7, 2) := by decide +kernel
theorem d4_26 : decode prog_62_method_7_code 26 = .ok (.idiv, 1) := by decide +kernel
theorem d4_27 : decode prog_62_method_7_code 27 = .ok (.invokestatic 29, 3) := by decide +kernel
theorem d4_30 : decode prog_62_method_7_code 30 = .ok (.ireturn, 1) := by decide +kernel
theorem pn_com_example_highwater_highwater_store_VarLong : plainName "com/example/highwater/highwater/store/VarLong" = true := by first | (simp [plainName, overriddenIn]; done) | decide +kernel
theorem pd__J_I : parseMethodDescriptor "(J)I" = some ⟨[.long], some .int⟩ := by decide +kernel
theorem pd__II_I : parseMethodDescriptor "(II)I" = some ⟨[.int, .int], some .int⟩ := by decide +kernel
theorem ef_4_0 (m : MethodId) (x0 : Int64) : entryFrame m #[(.long x0)] 3 = mkF m 0 #[.val (.long x0), .second, .unset] [] := by first | (simp [entryFrame, mkF, argsToLocals, Value.category]; done) | rfl
def Q4_0 (Z : State)  (h0 : Heap) (n0 : Nat) (v : Option Value) (h : Heap) (L : List Loc) : Prop := v = some (.int (1 : Int32)) ∧ Fr n0 L ∧ h = h0
set_option maxRecDepth 65536 in
set_option maxHeartbeats 40000000 in
theorem rm4_0 (l : Launch) (Z : State) (a0 : Array Value) (hw : ∀ d ∈ tables_1, d.before a0 Z = true) (ws : List Jvm.Cond)  (h0 : Heap) (n0 : Nat) (Z0 : n0 ≤ h0.size)  :
    MetFree l (⟨"com/example/highwater/highwater/store/VarLong", "length", "(J)I"⟩ : MethodName) (head1 (Jvm.Cond.code (⟨"com/example/highwater/highwater/store/VarLong", "length", "(J)I"⟩ : MethodName) prog_62_method_7_code 3 (some .int) :: ws) ({ frames := 2, cells := 0, slots := 0, locals := 29 } : Room)) (fun a U => a = #[(.long (0 : Int64))] ∧ Z.Warmed39 U.vm ∧ U.heap = h0) (fun _ _ _ _ _ => True) (fun _ U o U' => ∃ v L, o = .returned v ∧ Q4_0 Z  h0 n0 v U'.heap L ∧ FrameEnd U o U' L ({ frames := 2, cells := 0, slots := 0, locals := 29 } : Room).cells ({ frames := 2, cells := 0, slots := 0, locals := 29 } : Room).slots) := by
  refine MetFree.of_bodySF (plainFor_of_name pn_com_example_highwater_highwater_store_VarLong) hisR ?_
  intro p e s m args below meth c s₁ Bd hml0 hP hK
  obtain ⟨rfl, hZ, hh⟩ := hP
  have hx := Bd.exec
  have hby := Bd.bytes
  have hml : c.maxLocals = 3 := hml0
  have hown : s.vm.findClass "com/example/highwater/highwater/store/VarLong" = some m.cls := findClass_of_methodNamed Bd.named
  have hnm := (name_of_methodNamed Bd.named Bd.method).1
  have X0 : Stand p l e ({ frames := 2, cells := 0, slots := 0, locals := 29 } : Room) s m #[(.long (0 : Int64))] below meth c s₁ [] 0 0 := Stand.of_body Bd
  have e0 : s₁.heap = h0 := by rw [← hh, Bd.state]; rfl
  have N0 := Fr.nil n0
  show Goes p e below (fun s₂ o => ∃ v L, o = .returned v ∧ Q4_0 Z  h0 n0 v s₂.heap L ∧ FrameEnd s o s₂ L ({ frames := 2, cells := 0, slots := 0, locals := 29 } : Room).cells ({ frames := 2, cells := 0, slots := 0, locals := 29 } : Room).slots) (s₁.setTop (entryFrame m #[(.long (0 : Int64))] 3))
  refine Goes.cast (ef_4_0 m (0 : Int64)) ?_
  refine Goes.via (B := s₁.setTop (mkF m 2 #[.val (.long (0 : Int64)), .second, .unset] [(.int (64 : Int32))])) (fun t k => XS.bipush X0.here hx rfl (hb hby d4_0) k) ?_
  refine Goes.via (B := s₁.setTop (mkF m 3 #[.val (.long (0 : Int64)), .second, .unset] [(.long (0 : Int64)), (.int (64 : Int32))])) (fun t k => XS.lloadN X0.here hx rfl (hb hby d4_2) rfl k) ?_
  obtain ⟨_, _, ⟨T1, L1, kk1, nn1⟩, -, X1, ⟨Lc1, hQ1, l1, y1, z1⟩, st1⟩ := Jvm.LawKit.callS X0 hx (y := (⟨"java/lang/Long", "numberOfLeadingZeros", "(J)I"⟩ : MethodName)) hown (mvT hZ (hw _ (List.mem_of_getElem? (i := 58) rfl))) (mvT hZ (hw _ (List.mem_of_getElem? (i := 59) rfl))) (mvT hZ (hw _ (List.mem_of_getElem? (i := 60) rfl))) (mvT hZ (hw _ (List.mem_of_getElem? (i := 61) rfl))) (by decide) (backOf (W := 1) (rm2_0 l Z a0 hw []  h0 n0 Z0 ) hZ (hw _ (List.mem_of_getElem? (i := 61) rfl)) (hw _ (List.mem_of_getElem? (i := 60) rfl)) (by decide) (by decide)) (g := (mkF m 3 #[.val (.long (0 : Int64)), .second, .unset] [(.long (0 : Int64)), (.int (64 : Int32))])) rfl (by rw [hml]; rfl) (argsL := [(.long (0 : Int64))]) (rest := [(.int (64 : Int32))]) (lenOf pd__J_I rfl) rfl (by show 2 * 0 + _ ≤ _; exact Nat.le_of_eq rfl) (hb hby d4_3) (fun _ _ => ⟨rfl, e0, (by decide : 0 + 0 ≤ _), (by decide : 0 + 0 ≤ _)⟩)
  dsimp only [Pt.U, Pt.locs, Pt.cells, Pt.slots] at X1 l1 y1 z1 st1 hQ1
  subst l1 y1 z1
  obtain ⟨rfl, Nq1, hq1⟩ := hQ1
  have N1 := Fr.app N0 Nq1
  refine Goes.via (B := T1.setTop (mkF m 6 #[.val (.long (0 : Int64)), .second, .unset] [(.int (64 : Int32)), (.int (64 : Int32))])) st1 ?_
  refine Goes.via (B := T1.setTop (mkF m 7 #[.val (.long (0 : Int64)), .second, .unset] [(.int (0 : Int32))])) (fun t k => XS.isub X1.here hx rfl (hb hby d4_6) rfl k) ?_
  refine Goes.via (B := T1.setTop (mkF m 8 #[.val (.long (0 : Int64)), .second, .val (.int (0 : Int32))] [])) (fun t k => XS.istoreN X1.here hx rfl (hb hby d4_7) rfl (l' := #[.val (.long (0 : Int64)), .second, .val (.int (0 : Int32))]) rfl k) ?_
  refine Goes.via (B := T1.setTop (mkF m 9 #[.val (.long (0 : Int64)), .second, .val (.int (0 : Int32))] [(.int (0 : Int32))])) (fun t k => XS.iloadN X1.here hx rfl (hb hby d4_8) rfl k) ?_
  refine Goes.via (B := T1.setTop (mkF m 11 #[.val (.long (0 : Int64)), .second, .val (.int (0 : Int32))] [(.int (64 : Int32)), (.int (0 : Int32))])) (fun t k => XS.bipush X1.here hx rfl (hb hby d4_9) k) ?_
  refine Goes.via (B := T1.setTop (mkF m 19 #[.val (.long (0 : Int64)), .second, .val (.int (0 : Int32))] [])) (fun t k => XS.icmpYes X1.here hx rfl (pc0 := 11) (pc' := 19) rfl (hb hby d4_11) rfl (feq (by decide : ¬ (0 : Int32) = (64 : Int32))).2 (by decide) (by decide) k) ?_
  refine Goes.via (B := T1.setTop (mkF m 20 #[.val (.long (0 : Int64)), .second, .val (.int (0 : Int32))] [(.int (1 : Int32))])) (fun t k => XS.iconst X1.here hx rfl (hb hby d4_19) k) ?_
  refine Goes.via (B := T1.setTop (mkF m 21 #[.val (.long (0 : Int64)), .second, .val (.int (0 : Int32))] [(.int (0 : Int32)), (.int (1 : Int32))])) (fun t k => XS.iloadN X1.here hx rfl (hb hby d4_20) rfl k) ?_
  refine Goes.via (B := T1.setTop (mkF m 23 #[.val (.long (0 : Int64)), .second, .val (.int (0 : Int32))] [(.int (6 : Int32)), (.int (0 : Int32)), (.int (1 : Int32))])) (fun t k => XS.bipush X1.here hx rfl (hb hby d4_21) k) ?_
  refine Goes.via (B := T1.setTop (mkF m 24 #[.val (.long (0 : Int64)), .second, .val (.int (0 : Int32))] [(.int (6 : Int32)), (.int (1 : Int32))])) (fun t k => XS.iadd X1.here hx rfl (hb hby d4_23) rfl k) ?_
  refine Goes.via (B := T1.setTop (mkF m 26 #[.val (.long (0 : Int64)), .second, .val (.int (0 : Int32))] [(.int (7 : Int32)), (.int (6 : Int32)), (.int (1 : Int32))])) (fun t k => XS.bipush X1.here hx rfl (hb hby d4_24) k) ?_
  refine Goes.via (B := T1.setTop (mkF m 27 #[.val (.long (0 : Int64)), .second, .val (.int (0 : Int32))] [(.int ((6 : Int32) / (7 : Int32))), (.int (1 : Int32))])) (fun t k => XS.idiv X1.here hx rfl (hb hby d4_26) rfl (by decide) k) ?_
  rw [show ((6 : Int32) / (7 : Int32)) = (0 : Int32) from by decide +kernel]
  obtain ⟨_, _, ⟨T2, L2, kk2, nn2⟩, -, X2, ⟨Lc2, hQ2, l2, y2, z2⟩, st2⟩ := Jvm.LawKit.callS X1 hx (y := (⟨"java/lang/Math", "max", "(II)I"⟩ : MethodName)) hown (mvT hZ (hw _ (List.mem_of_getElem? (i := 67) rfl))) (mvT hZ (hw _ (List.mem_of_getElem? (i := 68) rfl))) (mvT hZ (hw _ (List.mem_of_getElem? (i := 69) rfl))) (mvT hZ (hw _ (List.mem_of_getElem? (i := 70) rfl))) (by decide) (backOf (W := 0) (rm3_0 l Z a0 hw []  h0 n0 Z0 ) hZ (hw _ (List.mem_of_getElem? (i := 70) rfl)) (hw _ (List.mem_of_getElem? (i := 69) rfl)) (by decide) (by decide)) (g := (mkF m 27 #[.val (.long (0 : Int64)), .second, .val (.int (0 : Int32))] [(.int (0 : Int32)), (.int (1 : Int32))])) rfl (by rw [hml]; rfl) (argsL := [(.int (1 : Int32)), (.int (0 : Int32))]) (rest := []) (lenOf pd__II_I rfl) rfl (by show 2 * 0 + _ ≤ _; exact Nat.le_of_eq rfl) (hb hby d4_27) (fun _ _ => ⟨rfl, hq1, (by decide : 0 + 0 ≤ _), (by decide : 0 + 0 ≤ _)⟩)
  dsimp only [Pt.U, Pt.locs, Pt.cells, Pt.slots] at X2 l2 y2 z2 st2 hQ2
  subst l2 y2 z2
  obtain ⟨rfl, Nq2, hq2⟩ := hQ2
  have N2 := Fr.app N1 Nq2
  refine Goes.via (B := T2.setTop (mkF m 30 #[.val (.long (0 : Int64)), .second, .val (.int (0 : Int32))] [(.int (1 : Int32))])) st2 ?_
  exact own_out X2 (v := some (.int (1 : Int32))) (fun h => by rw [Bd.returns] at h; cases h) Bd.notSynchronized (fun fs hr => retOut X2 hx Bd.returns rfl (Or.inl ⟨rfl, Or.inl rfl, _, rfl⟩) (hb hby d4_30) hr) ⟨rfl, N2, hq2⟩ (by decide) (by decide)
theorem ef_4_1 (m : MethodId) (x0 : Int64) : entryFrame m #[(.long x0)] 3 = mkF m 0 #[.val (.long x0), .second, .unset] [] := by first | (simp [entryFrame, mkF, argsToLocals, Value.category]; done) | rfl
def Q4_1 (Z : State)  (h0 : Heap) (n0 : Nat) (v : Option Value) (h : Heap) (L : List Loc) : Prop := v = some (.int (1 : Int32)) ∧ Fr n0 L ∧ h = h0
set_option maxRecDepth 65536 in
set_option maxHeartbeats 40000000 in
theorem rm4_1 (l : Launch) (Z : State) (a0 : Array Value) (hw : ∀ d ∈ tables_1, d.before a0 Z = true) (ws : List Jvm.Cond)  (h0 : Heap) (n0 : Nat) (Z0 : n0 ≤ h0.size)  :
    MetFree l (⟨"com/example/highwater/highwater/store/VarLong", "length", "(J)I"⟩ : MethodName) (head1 (Jvm.Cond.code (⟨"com/example/highwater/highwater/store/VarLong", "length", "(J)I"⟩ : MethodName) prog_62_method_7_code 3 (some .int) :: ws) ({ frames := 2, cells := 0, slots := 0, locals := 29 } : Room)) (fun a U => a = #[(.long (1 : Int64))] ∧ Z.Warmed39 U.vm ∧ U.heap = h0) (fun _ _ _ _ _ => True) (fun _ U o U' => ∃ v L, o = .returned v ∧ Q4_1 Z  h0 n0 v U'.heap L ∧ FrameEnd U o U' L ({ frames := 2, cells := 0, slots := 0, locals := 29 } : Room).cells ({ frames := 2, cells := 0, slots := 0, locals := 29 } : Room).slots) := by
  refine MetFree.of_bodySF (plainFor_of_name pn_com_example_highwater_highwater_store_VarLong) hisR ?_
  intro p e s m args below meth c s₁ Bd hml0 hP hK
  obtain ⟨rfl, hZ, hh⟩ := hP
  have hx := Bd.exec
  have hby := Bd.bytes
  have hml : c.maxLocals = 3 := hml0
  have hown : s.vm.findClass "com/example/highwater/highwater/store/VarLong" = some m.cls := findClass_of_methodNamed Bd.named
  have hnm := (name_of_methodNamed Bd.named Bd.method).1
  have X0 : Stand p l e ({ frames := 2, cells := 0, slots := 0, locals := 29 } : Room) s m #[(.long (1 : Int64))] below meth c s₁ [] 0 0 := Stand.of_body Bd
  have e0 : s₁.heap = h0 := by rw [← hh, Bd.state]; rfl
  have N0 := Fr.nil n0
  show Goes p e below (fun s₂ o => ∃ v L, o = .returned v ∧ Q4_1 Z  h0 n0 v s₂.heap L ∧ FrameEnd s o s₂ L ({ frames := 2, cells := 0, slots := 0, locals := 29 } : Room).cells ({ frames := 2, cells := 0, slots := 0, locals := 29 } : Room).slots) (s₁.setTop (entryFrame m #[(.long (1 : Int64))] 3))
  refine Goes.cast (ef_4_1 m (1 : Int64)) ?_
  refine Goes.via (B := s₁.setTop (mkF m 2 #[.val (.long (1 : Int64)), .second, .unset] [(.int (64 : Int32))])) (fun t k => XS.bipush X0.here hx rfl (hb hby d4_0) k) ?_
  refine Goes.via (B := s₁.setTop (mkF m 3 #[.val (.long (1 : Int64)), .second, .unset] [(.long (1 : Int64)), (.int (64 : Int32))])) (fun t k => XS.lloadN X0.here hx rfl (hb hby d4_2) rfl k) ?_
  obtain ⟨_, _, ⟨T1, L1, kk1, nn1⟩, -, X1, ⟨Lc1, hQ1, l1, y1, z1⟩, st1⟩ := Jvm.LawKit.callS X0 hx (y := (⟨"java/lang/Long", "numberOfLeadingZeros", "(J)I"⟩ : MethodName)) hown (mvT hZ (hw _ (List.mem_of_getElem? (i := 58) rfl))) (mvT hZ (hw _ (List.mem_of_getElem? (i := 59) rfl))) (mvT hZ (hw _ (List.mem_of_getElem? (i := 60) rfl))) (mvT hZ (hw _ (List.mem_of_getElem? (i := 61) rfl))) (by decide) (backOf (W := 1) (rm2_1 l Z a0 hw []  h0 n0 Z0 ) hZ (hw _ (List.mem_of_getElem? (i := 61) rfl)) (hw _ (List.mem_of_getElem? (i := 60) rfl)) (by decide) (by decide)) (g := (mkF m 3 #[.val (.long (1 : Int64)), .second, .unset] [(.long (1 : Int64)), (.int (64 : Int32))])) rfl (by rw [hml]; rfl) (argsL := [(.long (1 : Int64))]) (rest := [(.int (64 : Int32))]) (lenOf pd__J_I rfl) rfl (by show 2 * 0 + _ ≤ _; exact Nat.le_of_eq rfl) (hb hby d4_3) (fun _ _ => ⟨rfl, e0, (by decide : 0 + 0 ≤ _), (by decide : 0 + 0 ≤ _)⟩)
  dsimp only [Pt.U, Pt.locs, Pt.cells, Pt.slots] at X1 l1 y1 z1 st1 hQ1
  subst l1 y1 z1
  obtain ⟨rfl, Nq1, hq1⟩ := hQ1
  have N1 := Fr.app N0 Nq1
  refine Goes.via (B := T1.setTop (mkF m 6 #[.val (.long (1 : Int64)), .second, .unset] [(.int (63 : Int32)), (.int (64 : Int32))])) st1 ?_
  refine Goes.via (B := T1.setTop (mkF m 7 #[.val (.long (1 : Int64)), .second, .unset] [(.int (1 : Int32))])) (fun t k => XS.isub X1.here hx rfl (hb hby d4_6) rfl k) ?_
  refine Goes.via (B := T1.setTop (mkF m 8 #[.val (.long (1 : Int64)), .second, .val (.int (1 : Int32))] [])) (fun t k => XS.istoreN X1.here hx rfl (hb hby d4_7) rfl (l' := #[.val (.long (1 : Int64)), .second, .val (.int (1 : Int32))]) rfl k) ?_
  refine Goes.via (B := T1.setTop (mkF m 9 #[.val (.long (1 : Int64)), .second, .val (.int (1 : Int32))] [(.int (1 : Int32))])) (fun t k => XS.iloadN X1.here hx rfl (hb hby d4_8) rfl k) ?_
  refine Goes.via (B := T1.setTop (mkF m 11 #[.val (.long (1 : Int64)), .second, .val (.int (1 : Int32))] [(.int (64 : Int32)), (.int (1 : Int32))])) (fun t k => XS.bipush X1.here hx rfl (hb hby d4_9) k) ?_
  refine Goes.via (B := T1.setTop (mkF m 19 #[.val (.long (1 : Int64)), .second, .val (.int (1 : Int32))] [])) (fun t k => XS.icmpYes X1.here hx rfl (pc0 := 11) (pc' := 19) rfl (hb hby d4_11) rfl (feq (by decide : ¬ (1 : Int32) = (64 : Int32))).2 (by decide) (by decide) k) ?_
  refine Goes.via (B := T1.setTop (mkF m 20 #[.val (.long (1 : Int64)), .second, .val (.int (1 : Int32))] [(.int (1 : Int32))])) (fun t k => XS.iconst X1.here hx rfl (hb hby d4_19) k) ?_
  refine Goes.via (B := T1.setTop (mkF m 21 #[.val (.long (1 : Int64)), .second, .val (.int (1 : Int32))] [(.int (1 : Int32)), (.int (1 : Int32))])) (fun t k => XS.iloadN X1.here hx rfl (hb hby d4_20) rfl k) ?_
  refine Goes.via (B := T1.setTop (mkF m 23 #[.val (.long (1 : Int64)), .second, .val (.int (1 : Int32))] [(.int (6 : Int32)), (.int (1 : Int32)), (.int (1 : Int32))])) (fun t k => XS.bipush X1.here hx rfl (hb hby d4_21) k) ?_
  refine Goes.via (B := T1.setTop (mkF m 24 #[.val (.long (1 : Int64)), .second, .val (.int (1 : Int32))] [(.int (7 : Int32)), (.int (1 : Int32))])) (fun t k => XS.iadd X1.here hx rfl (hb hby d4_23) rfl k) ?_
  refine Goes.via (B := T1.setTop (mkF m 26 #[.val (.long (1 : Int64)), .second, .val (.int (1 : Int32))] [(.int (7 : Int32)), (.int (7 : Int32)), (.int (1 : Int32))])) (fun t k => XS.bipush X1.here hx rfl (hb hby d4_24) k) ?_
  refine Goes.via (B := T1.setTop (mkF m 27 #[.val (.long (1 : Int64)), .second, .val (.int (1 : Int32))] [(.int ((7 : Int32) / (7 : Int32))), (.int (1 : Int32))])) (fun t k => XS.idiv X1.here hx rfl (hb hby d4_26) rfl (by decide) k) ?_
  rw [show ((7 : Int32) / (7 : Int32)) = (1 : Int32) from by decide +kernel]
  obtain ⟨_, _, ⟨T2, L2, kk2, nn2⟩, -, X2, ⟨Lc2, hQ2, l2, y2, z2⟩, st2⟩ := Jvm.LawKit.callS X1 hx (y := (⟨"java/lang/Math", "max", "(II)I"⟩ : MethodName)) hown (mvT hZ (hw _ (List.mem_of_getElem? (i := 67) rfl))) (mvT hZ (hw _ (List.mem_of_getElem? (i := 68) rfl))) (mvT hZ (hw _ (List.mem_of_getElem? (i := 69) rfl))) (mvT hZ (hw _ (List.mem_of_getElem? (i := 70) rfl))) (by decide) (backOf (W := 0) (rm3_1 l Z a0 hw []  h0 n0 Z0 ) hZ (hw _ (List.mem_of_getElem? (i := 70) rfl)) (hw _ (List.mem_of_getElem? (i := 69) rfl)) (by decide) (by decide)) (g := (mkF m 27 #[.val (.long (1 : Int64)), .second, .val (.int (1 : Int32))] [(.int (1 : Int32)), (.int (1 : Int32))])) rfl (by rw [hml]; rfl) (argsL := [(.int (1 : Int32)), (.int (1 : Int32))]) (rest := []) (lenOf pd__II_I rfl) rfl (by show 2 * 0 + _ ≤ _; exact Nat.le_of_eq rfl) (hb hby d4_27) (fun _ _ => ⟨rfl, hq1, (by decide : 0 + 0 ≤ _), (by decide : 0 + 0 ≤ _)⟩)
  dsimp only [Pt.U, Pt.locs, Pt.cells, Pt.slots] at X2 l2 y2 z2 st2 hQ2
  subst l2 y2 z2
  obtain ⟨rfl, Nq2, hq2⟩ := hQ2
  have N2 := Fr.app N1 Nq2
  refine Goes.via (B := T2.setTop (mkF m 30 #[.val (.long (1 : Int64)), .second, .val (.int (1 : Int32))] [(.int (1 : Int32))])) st2 ?_
  exact own_out X2 (v := some (.int (1 : Int32))) (fun h => by rw [Bd.returns] at h; cases h) Bd.notSynchronized (fun fs hr => retOut X2 hx Bd.returns rfl (Or.inl ⟨rfl, Or.inl rfl, _, rfl⟩) (hb hby d4_30) hr) ⟨rfl, N2, hq2⟩ (by decide) (by decide)
theorem ef_4_2 (m : MethodId) (x0 : Int64) : entryFrame m #[(.long x0)] 3 = mkF m 0 #[.val (.long x0), .second, .unset] [] := by first | (simp [entryFrame, mkF, argsToLocals, Value.category]; done) | rfl
def Q4_2 (Z : State)  (h0 : Heap) (n0 : Nat) (v : Option Value) (h : Heap) (L : List Loc) : Prop := v = some (.int (1 : Int32)) ∧ Fr n0 L ∧ h = h0
set_option maxRecDepth 65536 in
set_option maxHeartbeats 40000000 in
theorem rm4_2 (l : Launch) (Z : State) (a0 : Array Value) (hw : ∀ d ∈ tables_1, d.before a0 Z = true) (ws : List Jvm.Cond)  (h0 : Heap) (n0 : Nat) (Z0 : n0 ≤ h0.size)  :
    MetFree l (⟨"com/example/highwater/highwater/store/VarLong", "length", "(J)I"⟩ : MethodName) (head1 (Jvm.Cond.code (⟨"com/example/highwater/highwater/store/VarLong", "length", "(J)I"⟩ : MethodName) prog_62_method_7_code 3 (some .int) :: ws) ({ frames := 2, cells := 0, slots := 0, locals := 29 } : Room)) (fun a U => a = #[(.long (2 : Int64))] ∧ Z.Warmed39 U.vm ∧ U.heap = h0) (fun _ _ _ _ _ => True) (fun _ U o U' => ∃ v L, o = .returned v ∧ Q4_2 Z  h0 n0 v U'.heap L ∧ FrameEnd U o U' L ({ frames := 2, cells := 0, slots := 0, locals := 29 } : Room).cells ({ frames := 2, cells := 0, slots := 0, locals := 29 } : Room).slots) := by
  refine MetFree.of_bodySF (plainFor_of_name pn_com_example_highwater_highwater_store_VarLong) hisR ?_
  intro p e s m args below meth c s₁ Bd hml0 hP hK
  obtain ⟨rfl, hZ, hh⟩ := hP
  have hx := Bd.exec
  have hby := Bd.bytes
  have hml : c.maxLocals = 3 := hml0
  have hown : s.vm.findClass "com/example/highwater/highwater/store/VarLong" = some m.cls := findClass_of_methodNamed Bd.named
  have hnm := (name_of_methodNamed Bd.named Bd.method).1
  have X0 : Stand p l e ({ frames := 2, cells := 0, slots := 0, locals := 29 } : Room) s m #[(.long (2 : Int64))] below meth c s₁ [] 0 0 := Stand.of_body Bd
  have e0 : s₁.heap = h0 := by rw [← hh, Bd.state]; rfl
  have N0 := Fr.nil n0
  show Goes p e below (fun s₂ o => ∃ v L, o = .returned v ∧ Q4_2 Z  h0 n0 v s₂.heap L ∧ FrameEnd s o s₂ L ({ frames := 2, cells := 0, slots := 0, locals := 29 } : Room).cells ({ frames := 2, cells := 0, slots := 0, locals := 29 } : Room).slots) (s₁.setTop (entryFrame m #[(.long (2 : Int64))] 3))
  refine Goes.cast (ef_4_2 m (2 : Int64)) ?_
  refine Goes.via (B := s₁.setTop (mkF m 2 #[.val (.long (2 : Int64)), .second, .unset] [(.int (64 : Int32))])) (fun t k => XS.bipush X0.here hx rfl (hb hby d4_0) k) ?_
  refine Goes.via (B := s₁.setTop (mkF m 3 #[.val (.long (2 : Int64)), .second, .unset] [(.long (2 : Int64)), (.int (64 : Int32))])) (fun t k => XS.lloadN X0.here hx rfl (hb hby d4_2) rfl k) ?_
  obtain ⟨_, _, ⟨T1, L1, kk1, nn1⟩, -, X1, ⟨Lc1, hQ1, l1, y1, z1⟩, st1⟩ := Jvm.LawKit.callS X0 hx (y := (⟨"java/lang/Long", "numberOfLeadingZeros", "(J)I"⟩ : MethodName)) hown (mvT hZ (hw _ (List.mem_of_getElem? (i := 58) rfl))) (mvT hZ (hw _ (List.mem_of_getElem? (i := 59) rfl))) (mvT hZ (hw _ (List.mem_of_getElem? (i := 60) rfl))) (mvT hZ (hw _ (List.mem_of_getElem? (i := 61) rfl))) (by decide) (backOf (W := 1) (rm2_2 l Z a0 hw []  h0 n0 Z0 ) hZ (hw _ (List.mem_of_getElem? (i := 61) rfl)) (hw _ (List.mem_of_getElem? (i := 60) rfl)) (by decide) (by decide)) (g := (mkF m 3 #[.val (.long (2 : Int64)), .second, .unset] [(.long (2 : Int64)), (.int (64 : Int32))])) rfl (by rw [hml]; rfl) (argsL := [(.long (2 : Int64))]) (rest := [(.int (64 : Int32))]) (lenOf pd__J_I rfl) rfl (by show 2 * 0 + _ ≤ _; exact Nat.le_of_eq rfl) (hb hby d4_3) (fun _ _ => ⟨rfl, e0, (by decide : 0 + 0 ≤ _), (by decide : 0 + 0 ≤ _)⟩)
  dsimp only [Pt.U, Pt.locs, Pt.cells, Pt.slots] at X1 l1 y1 z1 st1 hQ1
  subst l1 y1 z1
  obtain ⟨rfl, Nq1, hq1⟩ := hQ1
  have N1 := Fr.app N0 Nq1
  refine Goes.via (B := T1.setTop (mkF m 6 #[.val (.long (2 : Int64)), .second, .unset] [(.int (62 : Int32)), (.int (64 : Int32))])) st1 ?_
  refine Goes.via (B := T1.setTop (mkF m 7 #[.val (.long (2 : Int64)), .second, .unset] [(.int (2 : Int32))])) (fun t k => XS.isub X1.here hx rfl (hb hby d4_6) rfl k) ?_
  refine Goes.via (B := T1.setTop (mkF m 8 #[.val (.long (2 : Int64)), .second, .val (.int (2 : Int32))] [])) (fun t k => XS.istoreN X1.here hx rfl (hb hby d4_7) rfl (l' := #[.val (.long (2 : Int64)), .second, .val (.int (2 : Int32))]) rfl k) ?_
  refine Goes.via (B := T1.setTop (mkF m 9 #[.val (.long (2 : Int64)), .second, .val (.int (2 : Int32))] [(.int (2 : Int32))])) (fun t k => XS.iloadN X1.here hx rfl (hb hby d4_8) rfl k) ?_
  refine Goes.via (B := T1.setTop (mkF m 11 #[.val (.long (2 : Int64)), .second, .val (.int (2 : Int32))] [(.int (64 : Int32)), (.int (2 : Int32))])) (fun t k => XS.bipush X1.here hx rfl (hb hby d4_9) k) ?_
  refine Goes.via (B := T1.setTop (mkF m 19 #[.val (.long (2 : Int64)), .second, .val (.int (2 : Int32))] [])) (fun t k => XS.icmpYes X1.here hx rfl (pc0 := 11) (pc' := 19) rfl (hb hby d4_11) rfl (feq (by decide : ¬ (2 : Int32) = (64 : Int32))).2 (by decide) (by decide) k) ?_
  refine Goes.via (B := T1.setTop (mkF m 20 #[.val (.long (2 : Int64)), .second, .val (.int (2 : Int32))] [(.int (1 : Int32))])) (fun t k => XS.iconst X1.here hx rfl (hb hby d4_19) k) ?_
  refine Goes.via (B := T1.setTop (mkF m 21 #[.val (.long (2 : Int64)), .second, .val (.int (2 : Int32))] [(.int (2 : Int32)), (.int (1 : Int32))])) (fun t k => XS.iloadN X1.here hx rfl (hb hby d4_20) rfl k) ?_
  refine Goes.via (B := T1.setTop (mkF m 23 #[.val (.long (2 : Int64)), .second, .val (.int (2 : Int32))] [(.int (6 : Int32)), (.int (2 : Int32)), (.int (1 : Int32))])) (fun t k => XS.bipush X1.here hx rfl (hb hby d4_21) k) ?_
  refine Goes.via (B := T1.setTop (mkF m 24 #[.val (.long (2 : Int64)), .second, .val (.int (2 : Int32))] [(.int (8 : Int32)), (.int (1 : Int32))])) (fun t k => XS.iadd X1.here hx rfl (hb hby d4_23) rfl k) ?_
  refine Goes.via (B := T1.setTop (mkF m 26 #[.val (.long (2 : Int64)), .second, .val (.int (2 : Int32))] [(.int (7 : Int32)), (.int (8 : Int32)), (.int (1 : Int32))])) (fun t k => XS.bipush X1.here hx rfl (hb hby d4_24) k) ?_
  refine Goes.via (B := T1.setTop (mkF m 27 #[.val (.long (2 : Int64)), .second, .val (.int (2 : Int32))] [(.int ((8 : Int32) / (7 : Int32))), (.int (1 : Int32))])) (fun t k => XS.idiv X1.here hx rfl (hb hby d4_26) rfl (by decide) k) ?_
  rw [show ((8 : Int32) / (7 : Int32)) = (1 : Int32) from by decide +kernel]
  obtain ⟨_, _, ⟨T2, L2, kk2, nn2⟩, -, X2, ⟨Lc2, hQ2, l2, y2, z2⟩, st2⟩ := Jvm.LawKit.callS X1 hx (y := (⟨"java/lang/Math", "max", "(II)I"⟩ : MethodName)) hown (mvT hZ (hw _ (List.mem_of_getElem? (i := 67) rfl))) (mvT hZ (hw _ (List.mem_of_getElem? (i := 68) rfl))) (mvT hZ (hw _ (List.mem_of_getElem? (i := 69) rfl))) (mvT hZ (hw _ (List.mem_of_getElem? (i := 70) rfl))) (by decide) (backOf (W := 0) (rm3_1 l Z a0 hw []  h0 n0 Z0 ) hZ (hw _ (List.mem_of_getElem? (i := 70) rfl)) (hw _ (List.mem_of_getElem? (i := 69) rfl)) (by decide) (by decide)) (g := (mkF m 27 #[.val (.long (2 : Int64)), .second, .val (.int (2 : Int32))] [(.int (1 : Int32)), (.int (1 : Int32))])) rfl (by rw [hml]; rfl) (argsL := [(.int (1 : Int32)), (.int (1 : Int32))]) (rest := []) (lenOf pd__II_I rfl) rfl (by show 2 * 0 + _ ≤ _; exact Nat.le_of_eq rfl) (hb hby d4_27) (fun _ _ => ⟨rfl, hq1, (by decide : 0 + 0 ≤ _), (by decide : 0 + 0 ≤ _)⟩)
  dsimp only [Pt.U, Pt.locs, Pt.cells, Pt.slots] at X2 l2 y2 z2 st2 hQ2
  subst l2 y2 z2
  obtain ⟨rfl, Nq2, hq2⟩ := hQ2
  have N2 := Fr.app N1 Nq2
  refine Goes.via (B := T2.setTop (mkF m 30 #[.val (.long (2 : Int64)), .second, .val (.int (2 : Int32))] [(.int (1 : Int32))])) st2 ?_
  exact own_out X2 (v := some (.int (1 : Int32))) (fun h => by rw [Bd.returns] at h; cases h) Bd.notSynchronized (fun fs hr => retOut X2 hx Bd.returns rfl (Or.inl ⟨rfl, Or.inl rfl, _, rfl⟩) (hb hby d4_30) hr) ⟨rfl, N2, hq2⟩ (by decide) (by decide)
theorem ef_4_3 (m : MethodId) (x0 : Int64) : entryFrame m #[(.long x0)] 3 = mkF m 0 #[.val (.long x0), .second, .unset] [] := by first | (simp [entryFrame, mkF, argsToLocals, Value.category]; done) | rfl
def Q4_3 (Z : State)  (h0 : Heap) (n0 : Nat) (v : Option Value) (h : Heap) (L : List Loc) : Prop := v = some (.int (1 : Int32)) ∧ Fr n0 L ∧ h = h0
set_option maxRecDepth 65536 in
set_option maxHeartbeats 40000000 in
theorem rm4_3 (l : Launch) (Z : State) (a0 : Array Value) (hw : ∀ d ∈ tables_1, d.before a0 Z = true) (ws : List Jvm.Cond)  (h0 : Heap) (n0 : Nat) (Z0 : n0 ≤ h0.size)  :
    MetFree l (⟨"com/example/highwater/highwater/store/VarLong", "length", "(J)I"⟩ : MethodName) (head1 (Jvm.Cond.code (⟨"com/example/highwater/highwater/store/VarLong", "length", "(J)I"⟩ : MethodName) prog_62_method_7_code 3 (some .int) :: ws) ({ frames := 2, cells := 0, slots := 0, locals := 29 } : Room)) (fun a U => a = #[(.long (3 : Int64))] ∧ Z.Warmed39 U.vm ∧ U.heap = h0) (fun _ _ _ _ _ => True) (fun _ U o U' => ∃ v L, o = .returned v ∧ Q4_3 Z  h0 n0 v U'.heap L ∧ FrameEnd U o U' L ({ frames := 2, cells := 0, slots := 0, locals := 29 } : Room).cells ({ frames := 2, cells := 0, slots := 0, locals := 29 } : Room).slots) := by
  refine MetFree.of_bodySF (plainFor_of_name pn_com_example_highwater_highwater_store_VarLong) hisR ?_
  intro p e s m args below meth c s₁ Bd hml0 hP hK
  obtain ⟨rfl, hZ, hh⟩ := hP
  have hx := Bd.exec
  have hby := Bd.bytes
  have hml : c.maxLocals = 3 := hml0
  have hown : s.vm.findClass "com/example/highwater/highwater/store/VarLong" = some m.cls := findClass_of_methodNamed Bd.named
  have hnm := (name_of_methodNamed Bd.named Bd.method).1
  have X0 : Stand p l e ({ frames := 2, cells := 0, slots := 0, locals := 29 } : Room) s m #[(.long (3 : Int64))] below meth c s₁ [] 0 0 := Stand.of_body Bd
  have e0 : s₁.heap = h0 := by rw [← hh, Bd.state]; rfl
  have N0 := Fr.nil n0
  show Goes p e below (fun s₂ o => ∃ v L, o = .returned v ∧ Q4_3 Z  h0 n0 v s₂.heap L ∧ FrameEnd s o s₂ L ({ frames := 2, cells := 0, slots := 0, locals := 29 } : Room).cells ({ frames := 2, cells := 0, slots := 0, locals := 29 } : Room).slots) (s₁.setTop (entryFrame m #[(.long (3 : Int64))] 3))
  refine Goes.cast (ef_4_3 m (3 : Int64)) ?_
  refine Goes.via (B := s₁.setTop (mkF m 2 #[.val (.long (3 : Int64)), .second, .unset] [(.int (64 : Int32))])) (fun t k => XS.bipush X0.here hx rfl (hb hby d4_0) k) ?_
  refine Goes.via (B := s₁.setTop (mkF m 3 #[.val (.long (3 : Int64)), .second, .unset] [(.long (3 : Int64)), (.int (64 : Int32))])) (fun t k => XS.lloadN X0.here hx rfl (hb hby d4_2) rfl k) ?_
  obtain ⟨_, _, ⟨T1, L1, kk1, nn1⟩, -, X1, ⟨Lc1, hQ1, l1, y1, z1⟩, st1⟩ := Jvm.LawKit.callS X0 hx (y := (⟨"java/lang/Long", "numberOfLeadingZeros", "(J)I"⟩ : MethodName)) hown (mvT hZ (hw _ (List.mem_of_getElem? (i := 58) rfl))) (mvT hZ (hw _ (List.mem_of_getElem? (i := 59) rfl))) (mvT hZ (hw _ (List.mem_of_getElem? (i := 60) rfl))) (mvT hZ (hw _ (List.mem_of_getElem? (i := 61) rfl))) (by decide) (backOf (W := 1) (rm2_3 l Z a0 hw []  h0 n0 Z0 ) hZ (hw _ (List.mem_of_getElem? (i := 61) rfl)) (hw _ (List.mem_of_getElem? (i := 60) rfl)) (by decide) (by decide)) (g := (mkF m 3 #[.val (.long (3 : Int64)), .second, .unset] [(.long (3 : Int64)), (.int (64 : Int32))])) rfl (by rw [hml]; rfl) (argsL := [(.long (3 : Int64))]) (rest := [(.int (64 : Int32))]) (lenOf pd__J_I rfl) rfl (by show 2 * 0 + _ ≤ _; exact Nat.le_of_eq rfl) (hb hby d4_3) (fun _ _ => ⟨rfl, e0, (by decide : 0 + 0 ≤ _), (by decide : 0 + 0 ≤ _)⟩)
  dsimp only [Pt.U, Pt.locs, Pt.cells, Pt.slots] at X1 l1 y1 z1 st1 hQ1
  subst l1 y1 z1
  obtain ⟨rfl, Nq1, hq1⟩ := hQ1
  have N1 := Fr.app N0 Nq1
  refine Goes.via (B := T1.setTop (mkF m 6 #[.val (.long (3 : Int64)), .second, .unset] [(.int (62 : Int32)), (.int (64 : Int32))])) st1 ?_
  refine Goes.via (B := T1.setTop (mkF m 7 #[.val (.long (3 : Int64)), .second, .unset] [(.int (2 : Int32))])) (fun t k => XS.isub X1.here hx rfl (hb hby d4_6) rfl k) ?_
  refine Goes.via (B := T1.setTop (mkF m 8 #[.val (.long (3 : Int64)), .second, .val (.int (2 : Int32))] [])) (fun t k => XS.istoreN X1.here hx rfl (hb hby d4_7) rfl (l' := #[.val (.long (3 : Int64)), .second, .val (.int (2 : Int32))]) rfl k) ?_
  refine Goes.via (B := T1.setTop (mkF m 9 #[.val (.long (3 : Int64)), .second, .val (.int (2 : Int32))] [(.int (2 : Int32))])) (fun t k => XS.iloadN X1.here hx rfl (hb hby d4_8) rfl k) ?_
  refine Goes.via (B := T1.setTop (mkF m 11 #[.val (.long (3 : Int64)), .second, .val (.int (2 : Int32))] [(.int (64 : Int32)), (.int (2 : Int32))])) (fun t k => XS.bipush X1.here hx rfl (hb hby d4_9) k) ?_
  refine Goes.via (B := T1.setTop (mkF m 19 #[.val (.long (3 : Int64)), .second, .val (.int (2 : Int32))] [])) (fun t k => XS.icmpYes X1.here hx rfl (pc0 := 11) (pc' := 19) rfl (hb hby d4_11) rfl (feq (by decide : ¬ (2 : Int32) = (64 : Int32))).2 (by decide) (by decide) k) ?_
  refine Goes.via (B := T1.setTop (mkF m 20 #[.val (.long (3 : Int64)), .second, .val (.int (2 : Int32))] [(.int (1 : Int32))])) (fun t k => XS.iconst X1.here hx rfl (hb hby d4_19) k) ?_
  refine Goes.via (B := T1.setTop (mkF m 21 #[.val (.long (3 : Int64)), .second, .val (.int (2 : Int32))] [(.int (2 : Int32)), (.int (1 : Int32))])) (fun t k => XS.iloadN X1.here hx rfl (hb hby d4_20) rfl k) ?_
  refine Goes.via (B := T1.setTop (mkF m 23 #[.val (.long (3 : Int64)), .second, .val (.int (2 : Int32))] [(.int (6 : Int32)), (.int (2 : Int32)), (.int (1 : Int32))])) (fun t k => XS.bipush X1.here hx rfl (hb hby d4_21) k) ?_
  refine Goes.via (B := T1.setTop (mkF m 24 #[.val (.long (3 : Int64)), .second, .val (.int (2 : Int32))] [(.int (8 : Int32)), (.int (1 : Int32))])) (fun t k => XS.iadd X1.here hx rfl (hb hby d4_23) rfl k) ?_
  refine Goes.via (B := T1.setTop (mkF m 26 #[.val (.long (3 : Int64)), .second, .val (.int (2 : Int32))] [(.int (7 : Int32)), (.int (8 : Int32)), (.int (1 : Int32))])) (fun t k => XS.bipush X1.here hx rfl (hb hby d4_24) k) ?_
  refine Goes.via (B := T1.setTop (mkF m 27 #[.val (.long (3 : Int64)), .second, .val (.int (2 : Int32))] [(.int ((8 : Int32) / (7 : Int32))), (.int (1 : Int32))])) (fun t k => XS.idiv X1.here hx rfl (hb hby d4_26) rfl (by decide) k) ?_
  rw [show ((8 : Int32) / (7 : Int32)) = (1 : Int32) from by decide +kernel]
  obtain ⟨_, _, ⟨T2, L2, kk2, nn2⟩, -, X2, ⟨Lc2, hQ2, l2, y2, z2⟩, st2⟩ := Jvm.LawKit.callS X1 hx (y := (⟨"java/lang/Math", "max", "(II)I"⟩ : MethodName)) hown (mvT hZ (hw _ (List.mem_of_getElem? (i := 67) rfl))) (mvT hZ (hw _ (List.mem_of_getElem? (i := 68) rfl))) (mvT hZ (hw _ (List.mem_of_getElem? (i := 69) rfl))) (mvT hZ (hw _ (List.mem_of_getElem? (i := 70) rfl))) (by decide) (backOf (W := 0) (rm3_1 l Z a0 hw []  h0 n0 Z0 ) hZ (hw _ (List.mem_of_getElem? (i := 70) rfl)) (hw _ (List.mem_of_getElem? (i := 69) rfl)) (by decide) (by decide)) (g := (mkF m 27 #[.val (.long (3 : Int64)), .second, .val (.int (2 : Int32))] [(.int (1 : Int32)), (.int (1 : Int32))])) rfl (by rw [hml]; rfl) (argsL := [(.int (1 : Int32)), (.int (1 : Int32))]) (rest := []) (lenOf pd__II_I rfl) rfl (by show 2 * 0 + _ ≤ _; exact Nat.le_of_eq rfl) (hb hby d4_27) (fun _ _ => ⟨rfl, hq1, (by decide : 0 + 0 ≤ _), (by decide : 0 + 0 ≤ _)⟩)
  dsimp only [Pt.U, Pt.locs, Pt.cells, Pt.slots] at X2 l2 y2 z2 st2 hQ2
  subst l2 y2 z2
  obtain ⟨rfl, Nq2, hq2⟩ := hQ2
  have N2 := Fr.app N1 Nq2
  refine Goes.via (B := T2.setTop (mkF m 30 #[.val (.long (3 : Int64)), .second, .val (.int (2 : Int32))] [(.int (1 : Int32))])) st2 ?_
  exact own_out X2 (v := some (.int (1 : Int32))) (fun h => by rw [Bd.returns] at h; cases h) Bd.notSynchronized (fun fs hr => retOut X2 hx Bd.returns rfl (Or.inl ⟨rfl, Or.inl rfl, _, rfl⟩) (hb hby d4_30) hr) ⟨rfl, N2, hq2⟩ (by decide) (by decide)
def Q4 (h0 : Heap) (n0 : Nat) (v : Option Value) (h : Heap) (L : List Loc) : Prop := v = some (.int (1 : Int32)) ∧ Fr n0 L ∧ h = h0
theorem rm4 (l : Launch) (Z : State) (a0 : Array Value) (hw : ∀ d ∈ tables_1, d.before a0 Z = true) (ws : List Jvm.Cond) (x1 : Int32) (h0 : Heap) (n0 : Nat) (Z0 : n0 ≤ h0.size) (hx1 : 0 ≤ x1.toInt ∧ x1.toInt ≤ 3) :
    MetFree l (⟨"com/example/highwater/highwater/store/VarLong", "length", "(J)I"⟩ : MethodName) (head1 (Jvm.Cond.code (⟨"com/example/highwater/highwater/store/VarLong", "length", "(J)I"⟩ : MethodName) prog_62_method_7_code 3 (some .int) :: ws) ({ frames := 2, cells := 0, slots := 0, locals := 29 } : Room)) (fun a U => a = #[(.long (x1.toInt64))] ∧ Z.Warmed39 U.vm ∧ U.heap = h0) (fun _ _ _ _ _ => True) (fun _ U o U' => ∃ v L, o = .returned v ∧ Q4 h0 n0 v U'.heap L ∧ FrameEnd U o U' L ({ frames := 2, cells := 0, slots := 0, locals := 29 } : Room).cells ({ frames := 2, cells := 0, slots := 0, locals := 29 } : Room).slots) := by
  rcases own_v4 hx1 with rfl | rfl | rfl | rfl
  · exact rm4_0 l Z a0 hw ws h0 n0 Z0
  · exact rm4_1 l Z a0 hw ws h0 n0 Z0
  · exact rm4_2 l Z a0 hw ws h0 n0 Z0
  · exact rm4_3 l Z a0 hw ws h0 n0 Z0
theorem d5_0 : decode prog_62_method_6_code 0 = .ok (.iload_n 1, 1) := by decide +kernel
theorem d5_1 : decode prog_62_method_6_code 1 = .ok (.iload_n 2, 1) := by decide +kernel
theorem d5_2 : decode prog_62_method_6_code 2 = .ok (.if_icmp .ge 14, 3) := by decide +kernel
theorem d5_5 : decode prog_62_method_6_code 5 = .ok (.aload_n 0, 1) := by decide +kernel
theorem d5_6 : decode prog_62_method_6_code 6 = .ok (.iload_n 1, 1) := by decide +kernel
theorem d5_7 : decode prog_62_method_6_code 7 = .ok (.baload, 1) := by decide +kernel
theorem d5_8 : decode prog_62_method_6_code 8 = .ok (.ifCond .lt 8, 3) := by decide +kernel
theorem d5_11 : decode prog_62_method_6_code 11 = .ok (.aload_n 0, 1) := by decide +kernel
theorem d5_12 : decode prog_62_method_6_code 12 = .ok (.iload_n 1, 1) := by decide +kernel
theorem d5_13 : decode prog_62_method_6_code 13 = .ok (.baload, 1) := by decide +kernel
theorem d5_14 : decode prog_62_method_6_code 14 = .ok (.i2l, 1) := by decide +kernel
theorem d5_15 : decode prog_62_method_6_code 15 = .ok (.lreturn, 1) := by decide +kernel
theorem ef_5 (m : MethodId) (x0 : Addr) (x1 : Int32) (x2 : Int32) (x3 : Addr) : entryFrame m #[(.ref x0), (.int x1), (.int x2), (.ref x3)] 6 = mkF m 0 #[.val (.ref x0), .val (.int x1), .val (.int x2), .val (.ref x3), .unset, .unset] [] := by first | (simp [entryFrame, mkF, argsToLocals, Value.category]; done) | rfl
def Q5 (Z : State) (r1 : Addr) (k1 : ClassId) (vs : List Value) (i1 : Int32) (x1 : Int32) (sref : Addr) (h0 : Heap) (n0 : Nat) (v : Option Value) (h : Heap) (L : List Loc) : Prop := v = some (.long (x1.toInt64)) ∧ Fr n0 L ∧ h = h0
set_option maxRecDepth 65536 in
set_option maxHeartbeats 40000000 in
theorem rm5 (l : Launch) (Z : State) (a0 : Array Value) (hw : ∀ d ∈ tables_1, d.before a0 Z = true) (ws : List Jvm.Cond) (r1 : Addr) (k1 : ClassId) (vs : List Value) (i1 : Int32) (x1 : Int32) (sref : Addr) (h0 : Heap) (n0 : Nat) (Z0 : n0 ≤ h0.size) (V0 : Arv Z h0 r1 k1 .byte (7 : Int32) vs (.int (0 : Int32))) (hi : 0 ≤ i1.toInt ∧ i1.toInt < 7) (hval : vs.getD i1.toNatClampNeg (.int (0 : Int32)) = .int x1) (hx1 : 0 ≤ x1.toInt ∧ x1.toInt ≤ 3) :
    MetFree l (⟨"com/example/highwater/highwater/store/VarLong", "read", "([BIILjava/lang/String;)J"⟩ : MethodName) (head1 (Jvm.Cond.code (⟨"com/example/highwater/highwater/store/VarLong", "read", "([BIILjava/lang/String;)J"⟩ : MethodName) prog_62_method_6_code 6 (some .long) :: ws) ({ frames := 0, cells := 0, slots := 0, locals := 0 } : Room)) (fun a U => a = #[(.ref r1), (.int i1), (.int (7 : Int32)), (.ref sref)] ∧ Z.Warmed39 U.vm ∧ U.heap = h0) (fun _ _ _ _ _ => True) (fun _ U o U' => ∃ v L, o = .returned v ∧ Q5 Z r1 k1 vs i1 x1 sref h0 n0 v U'.heap L ∧ FrameEnd U o U' L ({ frames := 0, cells := 0, slots := 0, locals := 0 } : Room).cells ({ frames := 0, cells := 0, slots := 0, locals := 0 } : Room).slots) := by
  refine MetFree.of_bodySF (plainFor_of_name pn_com_example_highwater_highwater_store_VarLong) hisR ?_
  intro p e s m args below meth c s₁ Bd hml0 hP hK
  obtain ⟨rfl, hZ, hh⟩ := hP
  have hx := Bd.exec
  have hby := Bd.bytes
  have hml : c.maxLocals = 6 := hml0
  have hown : s.vm.findClass "com/example/highwater/highwater/store/VarLong" = some m.cls := findClass_of_methodNamed Bd.named
  have hnm := (name_of_methodNamed Bd.named Bd.method).1
  have X0 : Stand p l e ({ frames := 0, cells := 0, slots := 0, locals := 0 } : Room) s m #[(.ref r1), (.int i1), (.int (7 : Int32)), (.ref sref)] below meth c s₁ [] 0 0 := Stand.of_body Bd
  have e0 : s₁.heap = h0 := by rw [← hh, Bd.state]; rfl
  have N0 := Fr.nil n0
  show Goes p e below (fun s₂ o => ∃ v L, o = .returned v ∧ Q5 Z r1 k1 vs i1 x1 sref h0 n0 v s₂.heap L ∧ FrameEnd s o s₂ L ({ frames := 0, cells := 0, slots := 0, locals := 0 } : Room).cells ({ frames := 0, cells := 0, slots := 0, locals := 0 } : Room).slots) (s₁.setTop (entryFrame m #[(.ref r1), (.int i1), (.int (7 : Int32)), (.ref sref)] 6))
  refine Goes.cast (ef_5 m r1 i1 (7 : Int32) sref) ?_
  refine Goes.via (B := s₁.setTop (mkF m 1 #[.val (.ref r1), .val (.int i1), .val (.int (7 : Int32)), .val (.ref sref), .unset, .unset] [(.int i1)])) (fun t k => XS.iloadN X0.here hx rfl (hb hby d5_0) rfl k) ?_
  refine Goes.via (B := s₁.setTop (mkF m 2 #[.val (.ref r1), .val (.int i1), .val (.int (7 : Int32)), .val (.ref sref), .unset, .unset] [(.int (7 : Int32)), (.int i1)])) (fun t k => XS.iloadN X0.here hx rfl (hb hby d5_1) rfl k) ?_
  refine Goes.via (B := s₁.setTop (mkF m 5 #[.val (.ref r1), .val (.int i1), .val (.int (7 : Int32)), .val (.ref sref), .unset, .unset] [])) (fun t k => XS.icmpNo X0.here hx rfl (hb hby d5_2) rfl (tlt (own_idx hi).2).2.1 k) ?_
  refine Goes.via (B := s₁.setTop (mkF m 6 #[.val (.ref r1), .val (.int i1), .val (.int (7 : Int32)), .val (.ref sref), .unset, .unset] [(.ref r1)])) (fun t k => XS.aloadN X0.here hx rfl (hb hby d5_5) rfl rfl k) ?_
  refine Goes.via (B := s₁.setTop (mkF m 7 #[.val (.ref r1), .val (.int i1), .val (.int (7 : Int32)), .val (.ref sref), .unset, .unset] [(.int i1), (.ref r1)])) (fun t k => XS.iloadN X0.here hx rfl (hb hby d5_6) rfl k) ?_
  have Vc1 := V0
  obtain ⟨cl1, Ar1, q1, S1, M1, H1, G1⟩ := Vc1
  have hin1 : ¬ (i1 < 0 ∨ cl1.slots.size ≤ (i1).toNatClampNeg) := inb_of S1 (own_idx hi)
  have hat1 : cl1.slots[(i1).toNatClampNeg]? = some (.int x1) := H1.at hin1 hval
  refine Goes.via (B := s₁.setTop (mkF m 8 #[.val (.ref r1), .val (.int i1), .val (.int (7 : Int32)), .val (.ref sref), .unset, .unset] [(.int x1)])) (fun t k => X0.baloadBytes hx (j := i1) (v := (.int x1)) (by rw [e0]; exact Ar1.1) (State.isArrayOf_alike hZ.alike Ar1.2.1) Ar1.2.2 hin1 hat1 (g := (mkF m 7 #[.val (.ref r1), .val (.int i1), .val (.int (7 : Int32)), .val (.ref sref), .unset, .unset] [(.int i1), (.ref r1)])) rfl rfl (hb hby d5_7) _ k) ?_
  refine Goes.via (B := s₁.setTop (mkF m 11 #[.val (.ref r1), .val (.int i1), .val (.int (7 : Int32)), .val (.ref sref), .unset, .unset] [])) (fun t k => XS.ifNo X0.here hx rfl (hb hby d5_8) rfl ((if0 _ _).trans (flt (own_nn hx1)).1) k) ?_
  refine Goes.via (B := s₁.setTop (mkF m 12 #[.val (.ref r1), .val (.int i1), .val (.int (7 : Int32)), .val (.ref sref), .unset, .unset] [(.ref r1)])) (fun t k => XS.aloadN X0.here hx rfl (hb hby d5_11) rfl rfl k) ?_
  refine Goes.via (B := s₁.setTop (mkF m 13 #[.val (.ref r1), .val (.int i1), .val (.int (7 : Int32)), .val (.ref sref), .unset, .unset] [(.int i1), (.ref r1)])) (fun t k => XS.iloadN X0.here hx rfl (hb hby d5_12) rfl k) ?_
  have Vc2 := V0
  obtain ⟨cl2, Ar2, q2, S2, M2, H2, G2⟩ := Vc2
  have hin2 : ¬ (i1 < 0 ∨ cl2.slots.size ≤ (i1).toNatClampNeg) := inb_of S2 (own_idx hi)
  have hat2 : cl2.slots[(i1).toNatClampNeg]? = some (.int x1) := H2.at hin2 hval
  refine Goes.via (B := s₁.setTop (mkF m 14 #[.val (.ref r1), .val (.int i1), .val (.int (7 : Int32)), .val (.ref sref), .unset, .unset] [(.int x1)])) (fun t k => X0.baloadBytes hx (j := i1) (v := (.int x1)) (by rw [e0]; exact Ar2.1) (State.isArrayOf_alike hZ.alike Ar2.2.1) Ar2.2.2 hin2 hat2 (g := (mkF m 13 #[.val (.ref r1), .val (.int i1), .val (.int (7 : Int32)), .val (.ref sref), .unset, .unset] [(.int i1), (.ref r1)])) rfl rfl (hb hby d5_13) _ k) ?_
  refine Goes.via (B := s₁.setTop (mkF m 15 #[.val (.ref r1), .val (.int i1), .val (.int (7 : Int32)), .val (.ref sref), .unset, .unset] [(.long (x1.toInt64))])) (fun t k => XS.i2l X0.here hx rfl (hb hby d5_14) rfl k) ?_
  exact own_out X0 (v := some (.long (x1.toInt64))) (fun h => by rw [Bd.returns] at h; cases h) Bd.notSynchronized (fun fs hr => retOut X0 hx Bd.returns rfl (Or.inr (Or.inl ⟨rfl, rfl, _, rfl⟩)) (hb hby d5_15) hr) ⟨rfl, N0, e0⟩ (by decide) (by decide)
theorem d6_0 : decode prog_79_method_16_code 0 = .ok (.aload_n 0, 1) := by decide +kernel
theorem d6_1 : decode prog_79_method_16_code 1 = .ok (.getfield 19, 3) := by decide +kernel
theorem d6_4 : decode prog_79_method_16_code 4 = .ok (.aload_n 0, 1) := by decide +kernel
theorem d6_5 : decode prog_79_method_16_code 5 = .ok (.getfield 9, 3) := by decide +kernel
theorem d6_8 : decode prog_79_method_16_code 8 = .ok (.arraylength, 1) := by decide +kernel
theorem d6_9 : decode prog_79_method_16_code 9 = .ok (.if_icmp .ne 11, 3) := by decide +kernel
theorem d6_20 : decode prog_79_method_16_code 20 = .ok (.aload_n 0, 1) := by decide +kernel
theorem d6_21 : decode prog_79_method_16_code 21 = .ok (.getfield 9, 3) := by decide +kernel
theorem d6_24 : decode prog_79_method_16_code 24 = .ok (.aload_n 0, 1) := by decide +kernel
theorem d6_25 : decode prog_79_method_16_code 25 = .ok (.getfield 19, 3) := by decide +kernel
theorem d6_28 : decode prog_79_method_16_code 28 = .ok (.aload_n 0, 1) := by decide +kernel
theorem d6_29 : decode prog_79_method_16_code 29 = .ok (.getfield 9, 3) := by decide +kernel
theorem d6_32 : decode prog_79_method_16_code 32 = .ok (.arraylength, 1) := by decide +kernel
theorem d6_33 : decode prog_79_method_16_code 33 = .ok (.ldc 80, 2) := by decide +kernel
theorem d6_35 : decode prog_79_method_16_code 35 = .ok (.invokestatic 82, 3) := by decide +kernel
theorem d6_38 : decode prog_79_method_16_code 38 = .ok (.lstore_n 1, 1) := by decide +kernel
theorem d6_39 : decode prog_79_method_16_code 39 = .ok (.aload_n 0, 1) := by decide +kernel
theorem d6_40 : decode prog_79_method_16_code 40 = .ok (.dup, 1) := by decide +kernel
theorem d6_41 : decode prog_79_method_16_code 41 = .ok (.getfield 19, 3) := by decide +kernel
theorem d6_44 : decode prog_79_method_16_code 44 = .ok (.lload_n 1, 1) := by decide +kernel
theorem d6_45 : decode prog_79_method_16_code 45 = .ok (.invokestatic 88, 3) := by decide +kernel
theorem d6_48 : decode prog_79_method_16_code 48 = .ok (.iadd, 1) := by decide +kernel
theorem d6_49 : decode prog_79_method_16_code 49 = .ok (.putfield 19, 3) := by decide +kernel
theorem d6_52 : decode prog_79_method_16_code 52 = .ok (.lload_n 1, 1) := by decide +kernel
theorem d6_53 : decode prog_79_method_16_code 53 = .ok (.lconst 0, 1) := by decide +kernel
theorem d6_54 : decode prog_79_method_16_code 54 = .ok (.lcmp, 1) := by decide +kernel
theorem d6_55 : decode prog_79_method_16_code 55 = .ok (.ifCond .lt 19, 3) := by decide +kernel
theorem d6_58 : decode prog_79_method_16_code 58 = .ok (.lload_n 1, 1) := by decide +kernel
theorem d6_59 : decode prog_79_method_16_code 59 = .ok (.aload_n 0, 1) := by decide +kernel
theorem d6_60 : decode prog_79_method_16_code 60 = .ok (.getfield 9, 3) := by decide +kernel
theorem d6_63 : decode prog_79_method_16_code 63 = .ok (.arraylength, 1) := by decide +kernel
theorem d6_64 : decode prog_79_method_16_code 64 = .ok (.aload_n 0, 1) := by decide +kernel
theorem d6_65 : decode prog_79_method_16_code 65 = .ok (.getfield 19, 3) := by decide +kernel
theorem d6_68 : decode prog_79_method_16_code 68 = .ok (.isub, 1) := by decide +kernel
theorem d6_69 : decode prog_79_method_16_code 69 = .ok (.i2l, 1) := by decide +kernel
theorem d6_70 : decode prog_79_method_16_code 70 = .ok (.lcmp, 1) := by decide +kernel
theorem d6_71 : decode prog_79_method_16_code 71 = .ok (.ifCond .le 11, 3) := by decide +kernel
theorem d6_82 : decode prog_79_method_16_code 82 = .ok (.aload_n 0, 1) := by decide +kernel
theorem d6_83 : decode prog_79_method_16_code 83 = .ok (.dup, 1) := by decide +kernel
theorem d6_84 : decode prog_79_method_16_code 84 = .ok (.getfield 19, 3) := by decide +kernel
theorem d6_87 : decode prog_79_method_16_code 87 = .ok (.lload_n 1, 1) := by decide +kernel
theorem d6_88 : decode prog_79_method_16_code 88 = .ok (.l2i, 1) := by decide +kernel
theorem d6_89 : decode prog_79_method_16_code 89 = .ok (.iadd, 1) := by decide +kernel
theorem d6_90 : decode prog_79_method_16_code 90 = .ok (.putfield 19, 3) := by decide +kernel
theorem d6_93 : decode prog_79_method_16_code 93 = .ok (.lload_n 1, 1) := by decide +kernel
theorem d6_94 : decode prog_79_method_16_code 94 = .ok (.l2i, 1) := by decide +kernel
theorem d6_95 : decode prog_79_method_16_code 95 = .ok (.ireturn, 1) := by decide +kernel
theorem pn_com_example_highwater_highwater_sweep_QueueLayout_RunReader : plainName "com/example/highwater/highwater/sweep/QueueLayout$RunReader" = true := by first | (simp [plainName, overriddenIn]; done) | decide +kernel
theorem pd___BIILjava_lang_String__J : parseMethodDescriptor "([BIILjava/lang/String;)J" = some ⟨[(.array .byte), .int, .int, (.object "java/lang/String")], some .long⟩ := by decide +kernel
theorem ef_6 (m : MethodId) (x0 : Addr) : entryFrame m #[(.ref x0)] 3 = mkF m 0 #[.val (.ref x0), .unset, .unset] [] := by first | (simp [entryFrame, mkF, argsToLocals, Value.category]; done) | rfl
def Q6 (Z : State) (a1 : Addr) (r1 : Addr) (k1 : ClassId) (vs : List Value) (st : Int64) (nx : Int32) (ta : Int32) (tl : Int32) (ra : Int32) (rl : Int32) (ca : Int32) (cl : Int32) (dl : Int32) (nr : Int32) (x1 : Int32) (h0 : Heap) (n0 : Nat) (v : Option Value) (h : Heap) (L : List Loc) : Prop := v = some (.int x1) ∧ Fr n0 L ∧ Keep h0 h [a1] ∧ own_R Z h a1 (.ref r1) st (own_nx nx x1) ta tl ra rl ca cl dl nr
set_option maxRecDepth 65536 in
set_option maxHeartbeats 40000000 in
theorem rm6 (l : Launch) (Z : State) (a0 : Array Value) (hw : ∀ d ∈ tables_1, d.before a0 Z = true) (ws : List Jvm.Cond) (a1 : Addr) (r1 : Addr) (k1 : ClassId) (vs : List Value) (st : Int64) (nx : Int32) (ta : Int32) (tl : Int32) (ra : Int32) (rl : Int32) (ca : Int32) (cl : Int32) (dl : Int32) (nr : Int32) (x1 : Int32) (h0 : Heap) (n0 : Nat) (Z0 : n0 ≤ h0.size) (R0 : own_R Z h0 a1 (.ref r1) st nx ta tl ra rl ca cl dl nr) (V0 : Arv Z h0 r1 k1 .byte (7 : Int32) vs (.int (0 : Int32))) (ne0 : r1 ≠ a1) (g_a1 : n0 ≤ a1) (hi : 0 ≤ nx.toInt ∧ nx.toInt < 7) (hval : vs.getD nx.toNatClampNeg (.int (0 : Int32)) = .int x1) (hx1 : 0 ≤ x1.toInt ∧ x1.toInt ≤ 3) (hfit : nx.toInt + 1 + x1.toInt ≤ 7) :
    MetFree l (⟨"com/example/highwater/highwater/sweep/QueueLayout$RunReader", "part", "()I"⟩ : MethodName) (head1 (Jvm.Cond.code (⟨"com/example/highwater/highwater/sweep/QueueLayout$RunReader", "part", "()I"⟩ : MethodName) prog_79_method_16_code 3 (some .int) :: ws) ({ frames := 3, cells := 2, slots := 148, locals := 45 } : Room)) (fun a U => a = #[(.ref a1)] ∧ Z.Warmed39 U.vm ∧ U.heap = h0) (fun _ _ _ _ _ => True) (fun _ U o U' => ∃ v L, o = .returned v ∧ Q6 Z a1 r1 k1 vs st nx ta tl ra rl ca cl dl nr x1 h0 n0 v U'.heap L ∧ ReturnedEndW U o U' L ({ frames := 3, cells := 2, slots := 148, locals := 45 } : Room).cells ({ frames := 3, cells := 2, slots := 148, locals := 45 } : Room).slots) := by
  refine MetFree.of_bodySF (plainFor_of_name pn_com_example_highwater_highwater_sweep_QueueLayout_RunReader) hisR ?_
  intro p e s m args below meth c s₁ Bd hml0 hP hK
  obtain ⟨rfl, hZ, hh⟩ := hP
  have hx := Bd.exec
  have hby := Bd.bytes
  have hml : c.maxLocals = 3 := hml0
  have hown : s.vm.findClass "com/example/highwater/highwater/sweep/QueueLayout$RunReader" = some m.cls := findClass_of_methodNamed Bd.named
  have hnm := (name_of_methodNamed Bd.named Bd.method).1
  have X0 : Stand p l e ({ frames := 3, cells := 2, slots := 148, locals := 45 } : Room) s m #[(.ref a1)] below meth c s₁ [] 0 0 := Stand.of_body Bd
  have e0 : s₁.heap = h0 := by rw [← hh, Bd.state]; rfl
  have N0 := Fr.nil n0
  have X0 : Stand p l e ({ frames := 3, cells := 2, slots := 148, locals := 45 } : Room) (s.setVm s.vm) m #[(.ref a1)] below meth c s₁ [] 0 0 := X0
  have hS0 : s.Since s.vm h0.size := (State.WarmedH.refl s).since _
  have hk0 : h0.size ≤ h0.size := Nat.le_refl _
  have hZ : Z.Warmed39 (s.setVm s.vm).vm := hZ
  have hown : (s.setVm s.vm).vm.findClass "com/example/highwater/highwater/sweep/QueueLayout$RunReader" = some m.cls := hown
  show Goes p e below (fun s₂ o => ∃ v L, o = .returned v ∧ Q6 Z a1 r1 k1 vs st nx ta tl ra rl ca cl dl nr x1 h0 n0 v s₂.heap L ∧ ReturnedEndW s o s₂ L ({ frames := 3, cells := 2, slots := 148, locals := 45 } : Room).cells ({ frames := 3, cells := 2, slots := 148, locals := 45 } : Room).slots) (s₁.setTop (entryFrame m #[(.ref a1)] 3))
  refine Goes.cast (ef_6 m a1) ?_
  have K0 := Keep.refl h0 [a1]
  obtain ⟨Aa1, Fa1_run, Fa1_start, Fa1_next, Fa1_tableAt, Fa1_tableLength, Fa1_rowAt, Fa1_rowLength, Fa1_columnAt, Fa1_columnLength, Fa1_deletion, Fa1_namesRow⟩ := R0
  refine Goes.via (B := s₁.setTop (mkF m 1 #[.val (.ref a1), .unset, .unset] [(.ref a1)])) (fun t k => XS.aloadN X0.here hx rfl (hb hby d6_0) rfl rfl k) ?_
  obtain ⟨T1, X1, e1, st1⟩ := getF X0 hx hZ hown (host := "") (Or.inl (hw _ (List.mem_of_getElem? (i := 29) rfl))) Via.refl e0 Fa1_next (g := (mkF m 1 #[.val (.ref a1), .unset, .unset] [(.ref a1)])) rfl rfl (hb hby d6_1)
  refine Goes.via (B := T1.setTop (mkF m 4 #[.val (.ref a1), .unset, .unset] [(.int nx)])) st1 ?_
  refine Goes.via (B := T1.setTop (mkF m 5 #[.val (.ref a1), .unset, .unset] [(.ref a1), (.int nx)])) (fun t k => XS.aloadN X1.here hx rfl (hb hby d6_4) rfl rfl k) ?_
  obtain ⟨T2, X2, e2, st2⟩ := getF X1 hx hZ hown (host := "") (Or.inl (hw _ (List.mem_of_getElem? (i := 25) rfl))) Via.refl e1 Fa1_run (g := (mkF m 5 #[.val (.ref a1), .unset, .unset] [(.ref a1), (.int nx)])) rfl rfl (hb hby d6_5)
  refine Goes.via (B := T2.setTop (mkF m 8 #[.val (.ref a1), .unset, .unset] [(.ref r1), (.int nx)])) st2 ?_
  have Vc3 := V0
  obtain ⟨cl3, Ar3, q3, S3, M3, H3, G3⟩ := Vc3
  have ln3 := len_of S3 M3
  refine Goes.via (B := T2.setTop (mkF m 9 #[.val (.ref a1), .unset, .unset] [(.int (7 : Int32)), (.int nx)])) (fun t k => X2.arraylength hx (by rw [e2]; exact Ar3.1) (State.isArrayOf_alike hZ.alike Ar3.2.1) (g := (mkF m 8 #[.val (.ref a1), .unset, .unset] [(.ref r1), (.int nx)])) rfl rfl (hb hby d6_8) _ (by rw [ln3]; exact k)) ?_
  refine Goes.via (B := T2.setTop (mkF m 20 #[.val (.ref a1), .unset, .unset] [])) (fun t k => XS.icmpYes X2.here hx rfl (pc0 := 9) (pc' := 20) rfl (hb hby d6_9) rfl (feq (own_p9 hi)).2 (by decide) (by decide) k) ?_
  refine Goes.via (B := T2.setTop (mkF m 21 #[.val (.ref a1), .unset, .unset] [(.ref a1)])) (fun t k => XS.aloadN X2.here hx rfl (hb hby d6_20) rfl rfl k) ?_
  obtain ⟨T4, X4, e4, st4⟩ := getF X2 hx hZ hown (host := "") (Or.inl (hw _ (List.mem_of_getElem? (i := 25) rfl))) Via.refl e2 Fa1_run (g := (mkF m 21 #[.val (.ref a1), .unset, .unset] [(.ref a1)])) rfl rfl (hb hby d6_21)
  refine Goes.via (B := T4.setTop (mkF m 24 #[.val (.ref a1), .unset, .unset] [(.ref r1)])) st4 ?_
  refine Goes.via (B := T4.setTop (mkF m 25 #[.val (.ref a1), .unset, .unset] [(.ref a1), (.ref r1)])) (fun t k => XS.aloadN X4.here hx rfl (hb hby d6_24) rfl rfl k) ?_
  obtain ⟨T5, X5, e5, st5⟩ := getF X4 hx hZ hown (host := "") (Or.inl (hw _ (List.mem_of_getElem? (i := 29) rfl))) Via.refl e4 Fa1_next (g := (mkF m 25 #[.val (.ref a1), .unset, .unset] [(.ref a1), (.ref r1)])) rfl rfl (hb hby d6_25)
  refine Goes.via (B := T5.setTop (mkF m 28 #[.val (.ref a1), .unset, .unset] [(.int nx), (.ref r1)])) st5 ?_
  refine Goes.via (B := T5.setTop (mkF m 29 #[.val (.ref a1), .unset, .unset] [(.ref a1), (.int nx), (.ref r1)])) (fun t k => XS.aloadN X5.here hx rfl (hb hby d6_28) rfl rfl k) ?_
  obtain ⟨T6, X6, e6, st6⟩ := getF X5 hx hZ hown (host := "") (Or.inl (hw _ (List.mem_of_getElem? (i := 25) rfl))) Via.refl e5 Fa1_run (g := (mkF m 29 #[.val (.ref a1), .unset, .unset] [(.ref a1), (.int nx), (.ref r1)])) rfl rfl (hb hby d6_29)
  refine Goes.via (B := T6.setTop (mkF m 32 #[.val (.ref a1), .unset, .unset] [(.ref r1), (.int nx), (.ref r1)])) st6 ?_
  have Vc7 := V0
  obtain ⟨cl7, Ar7, q7, S7, M7, H7, G7⟩ := Vc7
  have ln7 := len_of S7 M7
  refine Goes.via (B := T6.setTop (mkF m 33 #[.val (.ref a1), .unset, .unset] [(.int (7 : Int32)), (.int nx), (.ref r1)])) (fun t k => X6.arraylength hx (by rw [e6]; exact Ar7.1) (State.isArrayOf_alike hZ.alike Ar7.2.1) (g := (mkF m 32 #[.val (.ref a1), .unset, .unset] [(.ref r1), (.int nx), (.ref r1)])) rfl rfl (hb hby d6_32) _ (by rw [ln7]; exact k)) ?_
  have wS8 : ∀ d ∈ Bundle.stringAtoms, d.before a0 Z = true := List.forall_mem_cons.mpr ⟨(hw _ (List.mem_of_getElem? (i := 45) rfl)), List.forall_mem_cons.mpr ⟨(hw _ (List.mem_of_getElem? (i := 46) rfl)), List.forall_mem_cons.mpr ⟨(hw _ (List.mem_of_getElem? (i := 10) rfl)), List.forall_mem_cons.mpr ⟨(hw _ (List.mem_of_getElem? (i := 47) rfl)), List.forall_mem_cons.mpr ⟨(hw _ (List.mem_of_getElem? (i := 48) rfl)), List.forall_mem_cons.mpr ⟨(hw _ (List.mem_of_getElem? (i := 49) rfl)), List.forall_mem_cons.mpr ⟨(hw _ (List.mem_of_getElem? (i := 50) rfl)), List.forall_mem_nil _⟩⟩⟩⟩⟩⟩⟩
  obtain ⟨q8, T8, h8, kk8, X8, e8, E8, hS8, hk8, hZ, hown, st8⟩ := ldcS (s := s) X6 hx hZ hown (hw _ (List.mem_of_getElem? (i := 44) rfl)) wS8 e6 hS0 hk0 (g := (mkF m 33 #[.val (.ref a1), .unset, .unset] [(.int (7 : Int32)), (.int nx), (.ref r1)])) rfl (hb hby d6_33) (n := 144) (by decide) (by decide) (by decide) (by decide)
  have Vr1_8 := V0.ext E8
  have Ea1_8 := Aa1.ext E8
  have Fa1_run_8 := Fa1_run.ext E8
  have Fa1_start_8 := Fa1_start.ext E8
  have Fa1_next_8 := Fa1_next.ext E8
  have Fa1_tableAt_8 := Fa1_tableAt.ext E8
  have Fa1_tableLength_8 := Fa1_tableLength.ext E8
  have Fa1_rowAt_8 := Fa1_rowAt.ext E8
  have Fa1_rowLength_8 := Fa1_rowLength.ext E8
  have Fa1_columnAt_8 := Fa1_columnAt.ext E8
  have Fa1_columnLength_8 := Fa1_columnLength.ext E8
  have Fa1_deletion_8 := Fa1_deletion.ext E8
  have Fa1_namesRow_8 := Fa1_namesRow.ext E8
  have Z8 : n0 ≤ h8.size := Nat.le_trans Z0 E8.1
  have K8 := K0.ext E8
  refine Goes.via (B := T8.setTop (mkF m 35 #[.val (.ref a1), .unset, .unset] [(.ref q8), (.int (7 : Int32)), (.int nx), (.ref r1)])) st8 ?_
  obtain ⟨_, _, ⟨T9, L9, kk9, nn9⟩, -, X9, ⟨Lc9, hQ9, l9, y9, z9⟩, st9⟩ := Jvm.LawKit.callS X8 hx (y := (⟨"com/example/highwater/highwater/store/VarLong", "read", "([BIILjava/lang/String;)J"⟩ : MethodName)) hown (mvT hZ (hw _ (List.mem_of_getElem? (i := 51) rfl))) (mvT hZ (hw _ (List.mem_of_getElem? (i := 52) rfl))) (mvT hZ (hw _ (List.mem_of_getElem? (i := 53) rfl))) (mvT hZ (hw _ (List.mem_of_getElem? (i := 54) rfl))) (by decide) (backOf (W := 0) (rm5 l Z a0 hw [] r1 k1 vs nx x1 q8 h8 n0 Z8 Vr1_8 hi hval hx1) hZ (hw _ (List.mem_of_getElem? (i := 54) rfl)) (hw _ (List.mem_of_getElem? (i := 53) rfl)) (by decide) (by decide)) (g := (mkF m 35 #[.val (.ref a1), .unset, .unset] [(.ref q8), (.int (7 : Int32)), (.int nx), (.ref r1)])) rfl (by rw [hml]; rfl) (argsL := [(.ref r1), (.int nx), (.int (7 : Int32)), (.ref q8)]) (rest := []) (lenOf pd___BIILjava_lang_String__J rfl) rfl (by show 2 * 0 + _ ≤ _; exact Nat.le_of_eq rfl) (hb hby d6_35) (fun _ _ => ⟨rfl, e8, (by decide : 2 + 0 ≤ _), (by decide : 148 + 0 ≤ _)⟩)
  dsimp only [Pt.U, Pt.locs, Pt.cells, Pt.slots] at X9 l9 y9 z9 st9 hQ9
  subst l9 y9 z9
  obtain ⟨rfl, Nq9, hq9⟩ := hQ9
  have N9 := Fr.app N0 Nq9
  refine Goes.via (B := T9.setTop (mkF m 38 #[.val (.ref a1), .unset, .unset] [(.long (x1.toInt64))])) st9 ?_
  refine Goes.via (B := T9.setTop (mkF m 39 #[.val (.ref a1), .val (.long (x1.toInt64)), .second] [])) (fun t k => XS.lstoreN X9.here hx rfl (hb hby d6_38) rfl (l' := #[.val (.ref a1), .val (.long (x1.toInt64)), .second]) rfl k) ?_
  refine Goes.via (B := T9.setTop (mkF m 40 #[.val (.ref a1), .val (.long (x1.toInt64)), .second] [(.ref a1)])) (fun t k => XS.aloadN X9.here hx rfl (hb hby d6_39) rfl rfl k) ?_
  refine Goes.via (B := T9.setTop (mkF m 41 #[.val (.ref a1), .val (.long (x1.toInt64)), .second] [(.ref a1), (.ref a1)])) (fun t k => XS.dup X9.here hx rfl (hb hby d6_40) rfl rfl k) ?_
  obtain ⟨T10, X10, e10, st10⟩ := getF X9 hx hZ hown (host := "") (Or.inl (hw _ (List.mem_of_getElem? (i := 29) rfl))) Via.refl hq9 Fa1_next_8 (g := (mkF m 41 #[.val (.ref a1), .val (.long (x1.toInt64)), .second] [(.ref a1), (.ref a1)])) rfl rfl (hb hby d6_41)
  refine Goes.via (B := T10.setTop (mkF m 44 #[.val (.ref a1), .val (.long (x1.toInt64)), .second] [(.int nx), (.ref a1)])) st10 ?_
  refine Goes.via (B := T10.setTop (mkF m 45 #[.val (.ref a1), .val (.long (x1.toInt64)), .second] [(.long (x1.toInt64)), (.int nx), (.ref a1)])) (fun t k => XS.lloadN X10.here hx rfl (hb hby d6_44) rfl k) ?_
  obtain ⟨_, _, ⟨T11, L11, kk11, nn11⟩, -, X11, ⟨Lc11, hQ11, l11, y11, z11⟩, st11⟩ := Jvm.LawKit.callS X10 hx (y := (⟨"com/example/highwater/highwater/store/VarLong", "length", "(J)I"⟩ : MethodName)) hown (mvT hZ (hw _ (List.mem_of_getElem? (i := 55) rfl))) (mvT hZ (hw _ (List.mem_of_getElem? (i := 56) rfl))) (mvT hZ (hw _ (List.mem_of_getElem? (i := 53) rfl))) (mvT hZ (hw _ (List.mem_of_getElem? (i := 57) rfl))) (by decide) (backOf (W := 2) (rm4 l Z a0 hw [] x1 h8 n0 Z8 hx1) hZ (hw _ (List.mem_of_getElem? (i := 57) rfl)) (hw _ (List.mem_of_getElem? (i := 53) rfl)) (by decide) (by decide)) (g := (mkF m 45 #[.val (.ref a1), .val (.long (x1.toInt64)), .second] [(.long (x1.toInt64)), (.int nx), (.ref a1)])) rfl (by rw [hml]; rfl) (argsL := [(.long (x1.toInt64))]) (rest := [(.int nx), (.ref a1)]) (lenOf pd__J_I rfl) rfl (by show 2 * 0 + _ ≤ _; exact Nat.le_of_eq rfl) (hb hby d6_45) (fun _ _ => ⟨rfl, e10, (by decide : 2 + 0 ≤ _), (by decide : 148 + 0 ≤ _)⟩)
  dsimp only [Pt.U, Pt.locs, Pt.cells, Pt.slots] at X11 l11 y11 z11 st11 hQ11
  subst l11 y11 z11
  obtain ⟨rfl, Nq11, hq11⟩ := hQ11
  have N11 := Fr.app N9 Nq11
  refine Goes.via (B := T11.setTop (mkF m 48 #[.val (.ref a1), .val (.long (x1.toInt64)), .second] [(.int (1 : Int32)), (.int nx), (.ref a1)])) st11 ?_
  refine Goes.via (B := T11.setTop (mkF m 49 #[.val (.ref a1), .val (.long (x1.toInt64)), .second] [(.int (nx + (1 : Int32))), (.ref a1)])) (fun t k => XS.iadd X11.here hx rfl (hb hby d6_48) rfl k) ?_
  obtain ⟨T12, h12, X12, e12, W12, st12⟩ := putF X11 hx hZ hown (host := "") (Or.inl (hw _ (List.mem_of_getElem? (i := 29) rfl))) Via.refl hq11 Fa1_next_8 Ea1_8 (Or.inl (hw _ (List.mem_of_getElem? (i := 30) rfl))) (hw _ (List.mem_of_getElem? (i := 12) rfl)) (ty := .int) (by decide) rfl rfl (g := (mkF m 49 #[.val (.ref a1), .val (.long (x1.toInt64)), .second] [(.int (nx + (1 : Int32))), (.ref a1)])) rfl rfl (hb hby d6_49)
  have Fa1_run_12 := Fa1_run_8.other W12 (Or.inr (slot_ne (Or.inl (hw _ (List.mem_of_getElem? (i := 26) rfl))) (Or.inl (hw _ (List.mem_of_getElem? (i := 30) rfl))) (by decide) (t := (.array .byte)) (by decide) (t' := .int) (by decide)))
  have Fa1_start_12 := Fa1_start_8.other W12 (Or.inr (slot_ne (Or.inl (hw _ (List.mem_of_getElem? (i := 28) rfl))) (Or.inl (hw _ (List.mem_of_getElem? (i := 30) rfl))) (by decide) (t := .long) (by decide) (t' := .int) (by decide)))
  have Fa1_tableAt_12 := Fa1_tableAt_8.other W12 (Or.inr (slot_ne (Or.inl (hw _ (List.mem_of_getElem? (i := 32) rfl))) (Or.inl (hw _ (List.mem_of_getElem? (i := 30) rfl))) (by decide) (t := .int) (by decide) (t' := .int) (by decide)))
  have Fa1_tableLength_12 := Fa1_tableLength_8.other W12 (Or.inr (slot_ne (Or.inl (hw _ (List.mem_of_getElem? (i := 72) rfl))) (Or.inl (hw _ (List.mem_of_getElem? (i := 30) rfl))) (by decide) (t := .int) (by decide) (t' := .int) (by decide)))
  have Fa1_rowAt_12 := Fa1_rowAt_8.other W12 (Or.inr (slot_ne (Or.inl (hw _ (List.mem_of_getElem? (i := 76) rfl))) (Or.inl (hw _ (List.mem_of_getElem? (i := 30) rfl))) (by decide) (t := .int) (by decide) (t' := .int) (by decide)))
  have Fa1_rowLength_12 := Fa1_rowLength_8.other W12 (Or.inr (slot_ne (Or.inl (hw _ (List.mem_of_getElem? (i := 74) rfl))) (Or.inl (hw _ (List.mem_of_getElem? (i := 30) rfl))) (by decide) (t := .int) (by decide) (t' := .int) (by decide)))
  have Fa1_columnAt_12 := Fa1_columnAt_8.other W12 (Or.inr (slot_ne (Or.inl (hw _ (List.mem_of_getElem? (i := 80) rfl))) (Or.inl (hw _ (List.mem_of_getElem? (i := 30) rfl))) (by decide) (t := .int) (by decide) (t' := .int) (by decide)))
  have Fa1_columnLength_12 := Fa1_columnLength_8.other W12 (Or.inr (slot_ne (Or.inl (hw _ (List.mem_of_getElem? (i := 78) rfl))) (Or.inl (hw _ (List.mem_of_getElem? (i := 30) rfl))) (by decide) (t := .int) (by decide) (t' := .int) (by decide)))
  have Fa1_deletion_12 := Fa1_deletion_8.other W12 (Or.inr (slot_ne (Or.inl (hw _ (List.mem_of_getElem? (i := 82) rfl))) (Or.inl (hw _ (List.mem_of_getElem? (i := 30) rfl))) (by decide) (t := .boolean) (by decide) (t' := .int) (by decide)))
  have Fa1_namesRow_12 := Fa1_namesRow_8.other W12 (Or.inr (slot_ne (Or.inl (hw _ (List.mem_of_getElem? (i := 39) rfl))) (Or.inl (hw _ (List.mem_of_getElem? (i := 30) rfl))) (by decide) (t := .boolean) (by decide) (t' := .int) (by decide)))
  have Fa1_next_12 := Fa1_next_8.same W12
  have hk12 := Nat.le_trans hk8 (Nat.le_of_eq W12.size.symm)
  have Vr1_12 := Vr1_8.other W12 ne0
  have Ea1_12 := Ea1_8.wr W12
  have N12 := Fr.snoc X12 N11 g_a1
  have Z12 : n0 ≤ h12.size := Nat.le_trans Z8 (Nat.le_of_eq W12.size.symm)
  have K12 := K8.wr W12 (Or.inl (List.mem_singleton.mpr rfl))
  refine Goes.via (B := T12.setTop (mkF m 52 #[.val (.ref a1), .val (.long (x1.toInt64)), .second] [])) st12 ?_
  refine Goes.via (B := T12.setTop (mkF m 53 #[.val (.ref a1), .val (.long (x1.toInt64)), .second] [(.long (x1.toInt64))])) (fun t k => XS.lloadN X12.here hx rfl (hb hby d6_52) rfl k) ?_
  refine Goes.via (B := T12.setTop (mkF m 54 #[.val (.ref a1), .val (.long (x1.toInt64)), .second] [(.long (0 : Int64)), (.long (x1.toInt64))])) (fun t k => XS.lconst X12.here hx rfl (hb hby d6_53) k) ?_
  refine Goes.via (B := T12.setTop (mkF m 55 #[.val (.ref a1), .val (.long (x1.toInt64)), .second] [(.int (lcmpW (x1.toInt64) (0 : Int64)))])) (fun t k => XS.lcmp X12.here hx rfl (hb hby d6_54) rfl k) ?_
  refine Goes.via (B := T12.setTop (mkF m 58 #[.val (.ref a1), .val (.long (x1.toInt64)), .second] [])) (fun t k => XS.ifNo X12.here hx rfl (hb hby d6_55) rfl ((if0 _ _).trans (flt (own_p55 hx1)).1) k) ?_
  refine Goes.via (B := T12.setTop (mkF m 59 #[.val (.ref a1), .val (.long (x1.toInt64)), .second] [(.long (x1.toInt64))])) (fun t k => XS.lloadN X12.here hx rfl (hb hby d6_58) rfl k) ?_
  refine Goes.via (B := T12.setTop (mkF m 60 #[.val (.ref a1), .val (.long (x1.toInt64)), .second] [(.ref a1), (.long (x1.toInt64))])) (fun t k => XS.aloadN X12.here hx rfl (hb hby d6_59) rfl rfl k) ?_
  obtain ⟨T13, X13, e13, st13⟩ := getF X12 hx hZ hown (host := "") (Or.inl (hw _ (List.mem_of_getElem? (i := 25) rfl))) Via.refl e12 Fa1_run_12 (g := (mkF m 60 #[.val (.ref a1), .val (.long (x1.toInt64)), .second] [(.ref a1), (.long (x1.toInt64))])) rfl rfl (hb hby d6_60)
  refine Goes.via (B := T13.setTop (mkF m 63 #[.val (.ref a1), .val (.long (x1.toInt64)), .second] [(.ref r1), (.long (x1.toInt64))])) st13 ?_
  have Vc14 := Vr1_12
  obtain ⟨cl14, Ar14, q14, S14, M14, H14, G14⟩ := Vc14
  have ln14 := len_of S14 M14
  refine Goes.via (B := T13.setTop (mkF m 64 #[.val (.ref a1), .val (.long (x1.toInt64)), .second] [(.int (7 : Int32)), (.long (x1.toInt64))])) (fun t k => X13.arraylength hx (by rw [e13]; exact Ar14.1) (State.isArrayOf_alike hZ.alike Ar14.2.1) (g := (mkF m 63 #[.val (.ref a1), .val (.long (x1.toInt64)), .second] [(.ref r1), (.long (x1.toInt64))])) rfl rfl (hb hby d6_63) _ (by rw [ln14]; exact k)) ?_
  refine Goes.via (B := T13.setTop (mkF m 65 #[.val (.ref a1), .val (.long (x1.toInt64)), .second] [(.ref a1), (.int (7 : Int32)), (.long (x1.toInt64))])) (fun t k => XS.aloadN X13.here hx rfl (hb hby d6_64) rfl rfl k) ?_
  obtain ⟨T15, X15, e15, st15⟩ := getF X13 hx hZ hown (host := "") (Or.inl (hw _ (List.mem_of_getElem? (i := 29) rfl))) Via.refl e13 Fa1_next_12 (g := (mkF m 65 #[.val (.ref a1), .val (.long (x1.toInt64)), .second] [(.ref a1), (.int (7 : Int32)), (.long (x1.toInt64))])) rfl rfl (hb hby d6_65)
  refine Goes.via (B := T15.setTop (mkF m 68 #[.val (.ref a1), .val (.long (x1.toInt64)), .second] [(.int (nx + (1 : Int32))), (.int (7 : Int32)), (.long (x1.toInt64))])) st15 ?_
  refine Goes.via (B := T15.setTop (mkF m 69 #[.val (.ref a1), .val (.long (x1.toInt64)), .second] [(.int ((7 : Int32) - (nx + (1 : Int32)))), (.long (x1.toInt64))])) (fun t k => XS.isub X15.here hx rfl (hb hby d6_68) rfl k) ?_
  refine Goes.via (B := T15.setTop (mkF m 70 #[.val (.ref a1), .val (.long (x1.toInt64)), .second] [(.long (((7 : Int32) - (nx + (1 : Int32))).toInt64)), (.long (x1.toInt64))])) (fun t k => XS.i2l X15.here hx rfl (hb hby d6_69) rfl k) ?_
  refine Goes.via (B := T15.setTop (mkF m 71 #[.val (.ref a1), .val (.long (x1.toInt64)), .second] [(.int (lcmpW (x1.toInt64) (((7 : Int32) - (nx + (1 : Int32))).toInt64)))])) (fun t k => XS.lcmp X15.here hx rfl (hb hby d6_70) rfl k) ?_
  refine Goes.via (B := T15.setTop (mkF m 82 #[.val (.ref a1), .val (.long (x1.toInt64)), .second] [])) (fun t k => XS.ifYes X15.here hx rfl (pc0 := 71) (pc' := 82) rfl (hb hby d6_71) rfl ((if0 _ _).trans (flt (own_p71 hi hx1 hfit)).2.2.2) (by decide) (by decide) k) ?_
  refine Goes.via (B := T15.setTop (mkF m 83 #[.val (.ref a1), .val (.long (x1.toInt64)), .second] [(.ref a1)])) (fun t k => XS.aloadN X15.here hx rfl (hb hby d6_82) rfl rfl k) ?_
  refine Goes.via (B := T15.setTop (mkF m 84 #[.val (.ref a1), .val (.long (x1.toInt64)), .second] [(.ref a1), (.ref a1)])) (fun t k => XS.dup X15.here hx rfl (hb hby d6_83) rfl rfl k) ?_
  obtain ⟨T16, X16, e16, st16⟩ := getF X15 hx hZ hown (host := "") (Or.inl (hw _ (List.mem_of_getElem? (i := 29) rfl))) Via.refl e15 Fa1_next_12 (g := (mkF m 84 #[.val (.ref a1), .val (.long (x1.toInt64)), .second] [(.ref a1), (.ref a1)])) rfl rfl (hb hby d6_84)
  refine Goes.via (B := T16.setTop (mkF m 87 #[.val (.ref a1), .val (.long (x1.toInt64)), .second] [(.int (nx + (1 : Int32))), (.ref a1)])) st16 ?_
  refine Goes.via (B := T16.setTop (mkF m 88 #[.val (.ref a1), .val (.long (x1.toInt64)), .second] [(.long (x1.toInt64)), (.int (nx + (1 : Int32))), (.ref a1)])) (fun t k => XS.lloadN X16.here hx rfl (hb hby d6_87) rfl k) ?_
  refine Goes.via (B := T16.setTop (mkF m 89 #[.val (.ref a1), .val (.long (x1.toInt64)), .second] [(.int ((x1.toInt64).toInt32)), (.int (nx + (1 : Int32))), (.ref a1)])) (fun t k => XS.l2i X16.here hx rfl (hb hby d6_88) rfl k) ?_
  rw [own_ll x1]
  refine Goes.via (B := T16.setTop (mkF m 90 #[.val (.ref a1), .val (.long (x1.toInt64)), .second] [(.int ((nx + (1 : Int32)) + x1)), (.ref a1)])) (fun t k => XS.iadd X16.here hx rfl (hb hby d6_89) rfl k) ?_
  obtain ⟨T17, h17, X17, e17, W17, st17⟩ := putF X16 hx hZ hown (host := "") (Or.inl (hw _ (List.mem_of_getElem? (i := 29) rfl))) Via.refl e16 Fa1_next_12 Ea1_12 (Or.inl (hw _ (List.mem_of_getElem? (i := 30) rfl))) (hw _ (List.mem_of_getElem? (i := 12) rfl)) (ty := .int) (by decide) rfl rfl (g := (mkF m 90 #[.val (.ref a1), .val (.long (x1.toInt64)), .second] [(.int ((nx + (1 : Int32)) + x1)), (.ref a1)])) rfl rfl (hb hby d6_90)
  have Fa1_run_17 := Fa1_run_12.other W17 (Or.inr (slot_ne (Or.inl (hw _ (List.mem_of_getElem? (i := 26) rfl))) (Or.inl (hw _ (List.mem_of_getElem? (i := 30) rfl))) (by decide) (t := (.array .byte)) (by decide) (t' := .int) (by decide)))
  have Fa1_start_17 := Fa1_start_12.other W17 (Or.inr (slot_ne (Or.inl (hw _ (List.mem_of_getElem? (i := 28) rfl))) (Or.inl (hw _ (List.mem_of_getElem? (i := 30) rfl))) (by decide) (t := .long) (by decide) (t' := .int) (by decide)))
  have Fa1_tableAt_17 := Fa1_tableAt_12.other W17 (Or.inr (slot_ne (Or.inl (hw _ (List.mem_of_getElem? (i := 32) rfl))) (Or.inl (hw _ (List.mem_of_getElem? (i := 30) rfl))) (by decide) (t := .int) (by decide) (t' := .int) (by decide)))
  have Fa1_tableLength_17 := Fa1_tableLength_12.other W17 (Or.inr (slot_ne (Or.inl (hw _ (List.mem_of_getElem? (i := 72) rfl))) (Or.inl (hw _ (List.mem_of_getElem? (i := 30) rfl))) (by decide) (t := .int) (by decide) (t' := .int) (by decide)))
  have Fa1_rowAt_17 := Fa1_rowAt_12.other W17 (Or.inr (slot_ne (Or.inl (hw _ (List.mem_of_getElem? (i := 76) rfl))) (Or.inl (hw _ (List.mem_of_getElem? (i := 30) rfl))) (by decide) (t := .int) (by decide) (t' := .int) (by decide)))
  have Fa1_rowLength_17 := Fa1_rowLength_12.other W17 (Or.inr (slot_ne (Or.inl (hw _ (List.mem_of_getElem? (i := 74) rfl))) (Or.inl (hw _ (List.mem_of_getElem? (i := 30) rfl))) (by decide) (t := .int) (by decide) (t' := .int) (by decide)))
  have Fa1_columnAt_17 := Fa1_columnAt_12.other W17 (Or.inr (slot_ne (Or.inl (hw _ (List.mem_of_getElem? (i := 80) rfl))) (Or.inl (hw _ (List.mem_of_getElem? (i := 30) rfl))) (by decide) (t := .int) (by decide) (t' := .int) (by decide)))
  have Fa1_columnLength_17 := Fa1_columnLength_12.other W17 (Or.inr (slot_ne (Or.inl (hw _ (List.mem_of_getElem? (i := 78) rfl))) (Or.inl (hw _ (List.mem_of_getElem? (i := 30) rfl))) (by decide) (t := .int) (by decide) (t' := .int) (by decide)))
  have Fa1_deletion_17 := Fa1_deletion_12.other W17 (Or.inr (slot_ne (Or.inl (hw _ (List.mem_of_getElem? (i := 82) rfl))) (Or.inl (hw _ (List.mem_of_getElem? (i := 30) rfl))) (by decide) (t := .boolean) (by decide) (t' := .int) (by decide)))
  have Fa1_namesRow_17 := Fa1_namesRow_12.other W17 (Or.inr (slot_ne (Or.inl (hw _ (List.mem_of_getElem? (i := 39) rfl))) (Or.inl (hw _ (List.mem_of_getElem? (i := 30) rfl))) (by decide) (t := .boolean) (by decide) (t' := .int) (by decide)))
  have Fa1_next_17 := Fa1_next_12.same W17
  have hk17 := Nat.le_trans hk12 (Nat.le_of_eq W17.size.symm)
  have Vr1_17 := Vr1_12.other W17 ne0
  have Ea1_17 := Ea1_12.wr W17
  have N17 := Fr.snoc X17 N12 g_a1
  have Z17 : n0 ≤ h17.size := Nat.le_trans Z12 (Nat.le_of_eq W17.size.symm)
  have K17 := K12.wr W17 (Or.inl (List.mem_singleton.mpr rfl))
  refine Goes.via (B := T17.setTop (mkF m 93 #[.val (.ref a1), .val (.long (x1.toInt64)), .second] [])) st17 ?_
  refine Goes.via (B := T17.setTop (mkF m 94 #[.val (.ref a1), .val (.long (x1.toInt64)), .second] [(.long (x1.toInt64))])) (fun t k => XS.lloadN X17.here hx rfl (hb hby d6_93) rfl k) ?_
  refine Goes.via (B := T17.setTop (mkF m 95 #[.val (.ref a1), .val (.long (x1.toInt64)), .second] [(.int ((x1.toInt64).toInt32))])) (fun t k => XS.l2i X17.here hx rfl (hb hby d6_94) rfl k) ?_
  rw [own_ll x1]
  exact own_outW (s := s) X17 hS8 (by rw [e17]; exact hk17) (v := some (.int x1)) (fun h => by rw [Bd.returns] at h; cases h) Bd.notSynchronized (fun fs hr => retOut X17 hx Bd.returns rfl (Or.inl ⟨rfl, Or.inl rfl, _, rfl⟩) (hb hby d6_95) hr) ⟨rfl, N17, (by rw [e17]; exact K17), (by rw [e17]; exact ⟨Ea1_17, Fa1_run_17, Fa1_start_17, Fa1_next_17, Fa1_tableAt_17, Fa1_tableLength_17, Fa1_rowAt_17, Fa1_rowLength_17, Fa1_columnAt_17, Fa1_columnLength_17, Fa1_deletion_17, Fa1_namesRow_17⟩)⟩ (by decide) (by decide)
theorem d7_0 : decode prog_79_method_3_code 0 = .ok (.aload_n 0, 1) := by decide +kernel
theorem d7_1 : decode prog_79_method_3_code 1 = .ok (.getfield 19, 3) := by decide +kernel
theorem d7_4 : decode prog_79_method_3_code 4 = .ok (.aload_n 0, 1) := by decide +kernel
theorem d7_5 : decode prog_79_method_3_code 5 = .ok (.getfield 9, 3) := by decide +kernel
theorem d7_8 : decode prog_79_method_3_code 8 = .ok (.arraylength, 1) := by decide +kernel
theorem d7_9 : decode prog_79_method_3_code 9 = .ok (.if_icmp .ne 20, 3) := by decide +kernel
theorem d7_29 : decode prog_79_method_3_code 29 = .ok (.aload_n 0, 1) := by decide +kernel
theorem d7_30 : decode prog_79_method_3_code 30 = .ok (.getfield 9, 3) := by decide +kernel
theorem d7_33 : decode prog_79_method_3_code 33 = .ok (.aload_n 0, 1) := by decide +kernel
theorem d7_34 : decode prog_79_method_3_code 34 = .ok (.dup, 1) := by decide +kernel
theorem d7_35 : decode prog_79_method_3_code 35 = .ok (.getfield 19, 3) := by decide +kernel
theorem d7_38 : decode prog_79_method_3_code 38 = .ok (.dup_x1, 1) := by decide +kernel
theorem d7_39 : decode prog_79_method_3_code 39 = .ok (.iconst 1, 1) := by decide +kernel
theorem d7_40 : decode prog_79_method_3_code 40 = .ok (.iadd, 1) := by decide +kernel
theorem d7_41 : decode prog_79_method_3_code 41 = .ok (.putfield 19, 3) := by decide +kernel
theorem d7_44 : decode prog_79_method_3_code 44 = .ok (.baload, 1) := by decide +kernel
theorem d7_45 : decode prog_79_method_3_code 45 = .ok (.istore_n 1, 1) := by decide +kernel
theorem d7_46 : decode prog_79_method_3_code 46 = .ok (.aload_n 0, 1) := by decide +kernel
theorem d7_47 : decode prog_79_method_3_code 47 = .ok (.iload_n 1, 1) := by decide +kernel
theorem d7_48 : decode prog_79_method_3_code 48 = .ok (.ifCond .eq 8, 3) := by decide +kernel
theorem d7_51 : decode prog_79_method_3_code 51 = .ok (.iload_n 1, 1) := by decide +kernel
theorem d7_52 : decode prog_79_method_3_code 52 = .ok (.iconst 1, 1) := by decide +kernel
theorem d7_53 : decode prog_79_method_3_code 53 = .ok (.if_icmp .ne 7, 3) := by decide +kernel
theorem d7_56 : decode prog_79_method_3_code 56 = .ok (.iconst 1, 1) := by decide +kernel
theorem d7_57 : decode prog_79_method_3_code 57 = .ok (.goto 4, 3) := by decide +kernel
theorem d7_61 : decode prog_79_method_3_code 61 = .ok (.putfield 30, 3) := by decide +kernel
theorem d7_64 : decode prog_79_method_3_code 64 = .ok (.aload_n 0, 1) := by decide +kernel
theorem d7_65 : decode prog_79_method_3_code 65 = .ok (.getfield 30, 3) := by decide +kernel
theorem d7_68 : decode prog_79_method_3_code 68 = .ok (.ifCond .eq 48, 3) := by decide +kernel
theorem d7_71 : decode prog_79_method_3_code 71 = .ok (.aload_n 0, 1) := by decide +kernel
theorem d7_72 : decode prog_79_method_3_code 72 = .ok (.aload_n 0, 1) := by decide +kernel
theorem d7_73 : decode prog_79_method_3_code 73 = .ok (.invokevirtual 34, 3) := by decide +kernel
theorem d7_76 : decode prog_79_method_3_code 76 = .ok (.putfield 38, 3) := by decide +kernel
theorem d7_79 : decode prog_79_method_3_code 79 = .ok (.aload_n 0, 1) := by decide +kernel
theorem d7_80 : decode prog_79_method_3_code 80 = .ok (.aload_n 0, 1) := by decide +kernel
theorem d7_81 : decode prog_79_method_3_code 81 = .ok (.getfield 19, 3) := by decide +kernel
theorem d7_84 : decode prog_79_method_3_code 84 = .ok (.aload_n 0, 1) := by decide +kernel
theorem d7_85 : decode prog_79_method_3_code 85 = .ok (.getfield 38, 3) := by decide +kernel
theorem d7_88 : decode prog_79_method_3_code 88 = .ok (.isub, 1) := by decide +kernel
theorem d7_89 : decode prog_79_method_3_code 89 = .ok (.putfield 23, 3) := by decide +kernel
theorem d7_92 : decode prog_79_method_3_code 92 = .ok (.aload_n 0, 1) := by decide +kernel
theorem d7_93 : decode prog_79_method_3_code 93 = .ok (.aload_n 0, 1) := by decide +kernel
theorem d7_94 : decode prog_79_method_3_code 94 = .ok (.invokevirtual 34, 3) := by decide +kernel
theorem d7_97 : decode prog_79_method_3_code 97 = .ok (.putfield 41, 3) := by decide +kernel
theorem d7_100 : decode prog_79_method_3_code 100 = .ok (.aload_n 0, 1) := by decide +kernel
theorem d7_101 : decode prog_79_method_3_code 101 = .ok (.aload_n 0, 1) := by decide +kernel
theorem d7_102 : decode prog_79_method_3_code 102 = .ok (.getfield 19, 3) := by decide +kernel
theorem d7_105 : decode prog_79_method_3_code 105 = .ok (.aload_n 0, 1) := by decide +kernel
theorem d7_106 : decode prog_79_method_3_code 106 = .ok (.getfield 41, 3) := by decide +kernel
theorem d7_109 : decode prog_79_method_3_code 109 = .ok (.isub, 1) := by decide +kernel
theorem d7_110 : decode prog_79_method_3_code 110 = .ok (.putfield 44, 3) := by decide +kernel
theorem d7_113 : decode prog_79_method_3_code 113 = .ok (.goto 28, 3) := by decide +kernel
theorem d7_141 : decode prog_79_method_3_code 141 = .ok (.aload_n 0, 1) := by decide +kernel
theorem d7_142 : decode prog_79_method_3_code 142 = .ok (.aload_n 0, 1) := by decide +kernel
theorem d7_143 : decode prog_79_method_3_code 143 = .ok (.invokevirtual 34, 3) := by decide +kernel
theorem d7_146 : decode prog_79_method_3_code 146 = .ok (.putfield 47, 3) := by decide +kernel
theorem d7_149 : decode prog_79_method_3_code 149 = .ok (.aload_n 0, 1) := by decide +kernel
theorem d7_150 : decode prog_79_method_3_code 150 = .ok (.aload_n 0, 1) := by decide +kernel
theorem d7_151 : decode prog_79_method_3_code 151 = .ok (.getfield 19, 3) := by decide +kernel
theorem d7_154 : decode prog_79_method_3_code 154 = .ok (.aload_n 0, 1) := by decide +kernel
theorem d7_155 : decode prog_79_method_3_code 155 = .ok (.getfield 47, 3) := by decide +kernel
theorem d7_158 : decode prog_79_method_3_code 158 = .ok (.isub, 1) := by decide +kernel
theorem d7_159 : decode prog_79_method_3_code 159 = .ok (.putfield 50, 3) := by decide +kernel
theorem d7_162 : decode prog_79_method_3_code 162 = .ok (.aload_n 0, 1) := by decide +kernel
theorem d7_163 : decode prog_79_method_3_code 163 = .ok (.iload_n 1, 1) := by decide +kernel
theorem d7_164 : decode prog_79_method_3_code 164 = .ok (.iconst 2, 1) := by decide +kernel
theorem d7_165 : decode prog_79_method_3_code 165 = .ok (.irem, 1) := by decide +kernel
theorem d7_166 : decode prog_79_method_3_code 166 = .ok (.ifCond .ne 7, 3) := by decide +kernel
theorem d7_169 : decode prog_79_method_3_code 169 = .ok (.iconst 1, 1) := by decide +kernel
theorem d7_170 : decode prog_79_method_3_code 170 = .ok (.goto 4, 3) := by decide +kernel
theorem d7_173 : decode prog_79_method_3_code 173 = .ok (.iconst 0, 1) := by decide +kernel
theorem d7_174 : decode prog_79_method_3_code 174 = .ok (.putfield 53, 3) := by decide +kernel
theorem d7_177 : decode prog_79_method_3_code 177 = .ok (.iconst 1, 1) := by decide +kernel
theorem d7_178 : decode prog_79_method_3_code 178 = .ok (.ireturn, 1) := by decide +kernel
theorem pd___I : parseMethodDescriptor "()I" = some ⟨[], some .int⟩ := by decide +kernel
theorem ef_7 (m : MethodId) (x0 : Addr) : entryFrame m #[(.ref x0)] 2 = mkF m 0 #[.val (.ref x0), .unset] [] := by first | (simp [entryFrame, mkF, argsToLocals, Value.category]; done) | rfl
def Q7 (Z : State) (a1 : Addr) (r1 : Addr) (k1 : ClassId) (vs : List Value) (st : Int64) (ta : Int32) (tl : Int32) (ra : Int32) (rl : Int32) (ca : Int32) (cl : Int32) (dl : Int32) (nr : Int32) (K : Int32) (A : Int32) (B : Int32) (C : Int32) (h0 : Heap) (n0 : Nat) (v : Option Value) (h : Heap) (L : List Loc) : Prop := v = some (.int (1 : Int32)) ∧ Fr n0 L ∧ Keep h0 h [a1] ∧ own_R Z h a1 (.ref r1) st (own_nx (own_nx (own_nx (1 : Int32) A) B) C) ((own_nx (1 : Int32) A) - A) A ((own_nx (own_nx (1 : Int32) A) B) - B) B ((own_nx (own_nx (own_nx (1 : Int32) A) B) C) - C) C (own_dl K) (1 : Int32)
set_option maxRecDepth 65536 in
set_option maxHeartbeats 40000000 in
theorem rm7 (l : Launch) (Z : State) (a0 : Array Value) (hw : ∀ d ∈ tables_1, d.before a0 Z = true) (ws : List Jvm.Cond) (a1 : Addr) (r1 : Addr) (k1 : ClassId) (vs : List Value) (st : Int64) (ta : Int32) (tl : Int32) (ra : Int32) (rl : Int32) (ca : Int32) (cl : Int32) (dl : Int32) (nr : Int32) (K : Int32) (A : Int32) (B : Int32) (C : Int32) (h0 : Heap) (n0 : Nat) (Z0 : n0 ≤ h0.size) (R0 : own_R Z h0 a1 (.ref r1) st (0 : Int32) ta tl ra rl ca cl dl nr) (V0 : Arv Z h0 r1 k1 .byte (7 : Int32) vs (.int (0 : Int32))) (ne0 : r1 ≠ a1) (g_a1 : n0 ≤ a1) (hKd : K = (0 : Int32) ∨ K = (1 : Int32)) (h7 : own_ok7 vs K A B C) (hb3 : own_abc A B C) :
    MetFree l (⟨"com/example/highwater/highwater/sweep/QueueLayout$RunReader", "next", "()Z"⟩ : MethodName) (head1 (Jvm.Cond.code (⟨"com/example/highwater/highwater/sweep/QueueLayout$RunReader", "next", "()Z"⟩ : MethodName) prog_79_method_3_code 2 (some .boolean) :: ws) ({ frames := 4, cells := 6, slots := 444, locals := 60 } : Room)) (fun a U => a = #[(.ref a1)] ∧ Z.Warmed39 U.vm ∧ U.heap = h0) (fun _ _ _ _ _ => True) (fun _ U o U' => ∃ v L, o = .returned v ∧ Q7 Z a1 r1 k1 vs st ta tl ra rl ca cl dl nr K A B C h0 n0 v U'.heap L ∧ ReturnedEndW U o U' L ({ frames := 4, cells := 6, slots := 444, locals := 60 } : Room).cells ({ frames := 4, cells := 6, slots := 444, locals := 60 } : Room).slots) := by
  refine MetFree.of_bodySF (plainFor_of_name pn_com_example_highwater_highwater_sweep_QueueLayout_RunReader) hisR ?_
  intro p e s m args below meth c s₁ Bd hml0 hP hK
  obtain ⟨rfl, hZ, hh⟩ := hP
  have hx := Bd.exec
  have hby := Bd.bytes
  have hml : c.maxLocals = 2 := hml0
  have hown : s.vm.findClass "com/example/highwater/highwater/sweep/QueueLayout$RunReader" = some m.cls := findClass_of_methodNamed Bd.named
  have hnm := (name_of_methodNamed Bd.named Bd.method).1
  have X0 : Stand p l e ({ frames := 4, cells := 6, slots := 444, locals := 60 } : Room) s m #[(.ref a1)] below meth c s₁ [] 0 0 := Stand.of_body Bd
  have e0 : s₁.heap = h0 := by rw [← hh, Bd.state]; rfl
  have N0 := Fr.nil n0
  have X0 : Stand p l e ({ frames := 4, cells := 6, slots := 444, locals := 60 } : Room) (s.setVm s.vm) m #[(.ref a1)] below meth c s₁ [] 0 0 := X0
  have hS0 : s.Since s.vm h0.size := (State.WarmedH.refl s).since _
  have hk0 : h0.size ≤ h0.size := Nat.le_refl _
  have hZ : Z.Warmed39 (s.setVm s.vm).vm := hZ
  have hown : (s.setVm s.vm).vm.findClass "com/example/highwater/highwater/sweep/QueueLayout$RunReader" = some m.cls := hown
  show Goes p e below (fun s₂ o => ∃ v L, o = .returned v ∧ Q7 Z a1 r1 k1 vs st ta tl ra rl ca cl dl nr K A B C h0 n0 v s₂.heap L ∧ ReturnedEndW s o s₂ L ({ frames := 4, cells := 6, slots := 444, locals := 60 } : Room).cells ({ frames := 4, cells := 6, slots := 444, locals := 60 } : Room).slots) (s₁.setTop (entryFrame m #[(.ref a1)] 2))
  refine Goes.cast (ef_7 m a1) ?_
  have K0 := Keep.refl h0 [a1]
  obtain ⟨hv0, hv1, hv2, hv3⟩ := h7
  obtain ⟨b1, b2, b3, b4⟩ := hb3
  have i1 : 0 ≤ (1 : Int32).toInt ∧ (1 : Int32).toInt < 7 := by decide
  have i1e : (1 : Int32).toInt = 1 := by decide
  have t1 := own_nxi i1 (show 0 ≤ A.toInt ∧ A.toInt ≤ 3 by omega)
  have i2 : 0 ≤ (own_nx (1 : Int32) A).toInt ∧ (own_nx (1 : Int32) A).toInt < 7 := by omega
  have t2 := own_nxi i2 (show 0 ≤ B.toInt ∧ B.toInt ≤ 3 by omega)
  have i3 : 0 ≤ (own_nx (own_nx (1 : Int32) A) B).toInt ∧ (own_nx (own_nx (1 : Int32) A) B).toInt < 7 := by omega
  obtain ⟨Aa1, Fa1_run, Fa1_start, Fa1_next, Fa1_tableAt, Fa1_tableLength, Fa1_rowAt, Fa1_rowLength, Fa1_columnAt, Fa1_columnLength, Fa1_deletion, Fa1_namesRow⟩ := R0
  rcases hKd with rfl | rfl
  · refine Goes.via (B := s₁.setTop (mkF m 1 #[.val (.ref a1), .unset] [(.ref a1)])) (fun t k => XS.aloadN X0.here hx rfl (hb hby d7_0) rfl rfl k) ?_
    obtain ⟨T1, X1, e1, st1⟩ := getF X0 hx hZ hown (host := "") (Or.inl (hw _ (List.mem_of_getElem? (i := 29) rfl))) Via.refl e0 Fa1_next (g := (mkF m 1 #[.val (.ref a1), .unset] [(.ref a1)])) rfl rfl (hb hby d7_1)
    refine Goes.via (B := T1.setTop (mkF m 4 #[.val (.ref a1), .unset] [(.int (0 : Int32))])) st1 ?_
    refine Goes.via (B := T1.setTop (mkF m 5 #[.val (.ref a1), .unset] [(.ref a1), (.int (0 : Int32))])) (fun t k => XS.aloadN X1.here hx rfl (hb hby d7_4) rfl rfl k) ?_
    obtain ⟨T2, X2, e2, st2⟩ := getF X1 hx hZ hown (host := "") (Or.inl (hw _ (List.mem_of_getElem? (i := 25) rfl))) Via.refl e1 Fa1_run (g := (mkF m 5 #[.val (.ref a1), .unset] [(.ref a1), (.int (0 : Int32))])) rfl rfl (hb hby d7_5)
    refine Goes.via (B := T2.setTop (mkF m 8 #[.val (.ref a1), .unset] [(.ref r1), (.int (0 : Int32))])) st2 ?_
    have Vc3 := V0
    obtain ⟨cl3, Ar3, q3, S3, M3, H3, G3⟩ := Vc3
    have ln3 := len_of S3 M3
    refine Goes.via (B := T2.setTop (mkF m 9 #[.val (.ref a1), .unset] [(.int (7 : Int32)), (.int (0 : Int32))])) (fun t k => X2.arraylength hx (by rw [e2]; exact Ar3.1) (State.isArrayOf_alike hZ.alike Ar3.2.1) (g := (mkF m 8 #[.val (.ref a1), .unset] [(.ref r1), (.int (0 : Int32))])) rfl rfl (hb hby d7_8) _ (by rw [ln3]; exact k)) ?_
    refine Goes.via (B := T2.setTop (mkF m 29 #[.val (.ref a1), .unset] [])) (fun t k => XS.icmpYes X2.here hx rfl (pc0 := 9) (pc' := 29) rfl (hb hby d7_9) rfl (feq (by decide : ¬ (0 : Int32) = (7 : Int32))).2 (by decide) (by decide) k) ?_
    refine Goes.via (B := T2.setTop (mkF m 30 #[.val (.ref a1), .unset] [(.ref a1)])) (fun t k => XS.aloadN X2.here hx rfl (hb hby d7_29) rfl rfl k) ?_
    obtain ⟨T4, X4, e4, st4⟩ := getF X2 hx hZ hown (host := "") (Or.inl (hw _ (List.mem_of_getElem? (i := 25) rfl))) Via.refl e2 Fa1_run (g := (mkF m 30 #[.val (.ref a1), .unset] [(.ref a1)])) rfl rfl (hb hby d7_30)
    refine Goes.via (B := T4.setTop (mkF m 33 #[.val (.ref a1), .unset] [(.ref r1)])) st4 ?_
    refine Goes.via (B := T4.setTop (mkF m 34 #[.val (.ref a1), .unset] [(.ref a1), (.ref r1)])) (fun t k => XS.aloadN X4.here hx rfl (hb hby d7_33) rfl rfl k) ?_
    refine Goes.via (B := T4.setTop (mkF m 35 #[.val (.ref a1), .unset] [(.ref a1), (.ref a1), (.ref r1)])) (fun t k => XS.dup X4.here hx rfl (hb hby d7_34) rfl rfl k) ?_
    obtain ⟨T5, X5, e5, st5⟩ := getF X4 hx hZ hown (host := "") (Or.inl (hw _ (List.mem_of_getElem? (i := 29) rfl))) Via.refl e4 Fa1_next (g := (mkF m 35 #[.val (.ref a1), .unset] [(.ref a1), (.ref a1), (.ref r1)])) rfl rfl (hb hby d7_35)
    refine Goes.via (B := T5.setTop (mkF m 38 #[.val (.ref a1), .unset] [(.int (0 : Int32)), (.ref a1), (.ref r1)])) st5 ?_
    refine Goes.via (B := T5.setTop (mkF m 39 #[.val (.ref a1), .unset] [(.int (0 : Int32)), (.ref a1), (.int (0 : Int32)), (.ref r1)])) (fun t k => XS.dupX1 X5.here hx rfl (hb hby d7_38) rfl rfl rfl k) ?_
    refine Goes.via (B := T5.setTop (mkF m 40 #[.val (.ref a1), .unset] [(.int (1 : Int32)), (.int (0 : Int32)), (.ref a1), (.int (0 : Int32)), (.ref r1)])) (fun t k => XS.iconst X5.here hx rfl (hb hby d7_39) k) ?_
    refine Goes.via (B := T5.setTop (mkF m 41 #[.val (.ref a1), .unset] [(.int (1 : Int32)), (.ref a1), (.int (0 : Int32)), (.ref r1)])) (fun t k => XS.iadd X5.here hx rfl (hb hby d7_40) rfl k) ?_
    obtain ⟨T6, h6, X6, e6, W6, st6⟩ := putF X5 hx hZ hown (host := "") (Or.inl (hw _ (List.mem_of_getElem? (i := 29) rfl))) Via.refl e5 Fa1_next Aa1 (Or.inl (hw _ (List.mem_of_getElem? (i := 30) rfl))) (hw _ (List.mem_of_getElem? (i := 12) rfl)) (ty := .int) (by decide) rfl rfl (g := (mkF m 41 #[.val (.ref a1), .unset] [(.int (1 : Int32)), (.ref a1), (.int (0 : Int32)), (.ref r1)])) rfl rfl (hb hby d7_41)
    have Fa1_run_6 := Fa1_run.other W6 (Or.inr (slot_ne (Or.inl (hw _ (List.mem_of_getElem? (i := 26) rfl))) (Or.inl (hw _ (List.mem_of_getElem? (i := 30) rfl))) (by decide) (t := (.array .byte)) (by decide) (t' := .int) (by decide)))
    have Fa1_start_6 := Fa1_start.other W6 (Or.inr (slot_ne (Or.inl (hw _ (List.mem_of_getElem? (i := 28) rfl))) (Or.inl (hw _ (List.mem_of_getElem? (i := 30) rfl))) (by decide) (t := .long) (by decide) (t' := .int) (by decide)))
    have Fa1_tableAt_6 := Fa1_tableAt.other W6 (Or.inr (slot_ne (Or.inl (hw _ (List.mem_of_getElem? (i := 32) rfl))) (Or.inl (hw _ (List.mem_of_getElem? (i := 30) rfl))) (by decide) (t := .int) (by decide) (t' := .int) (by decide)))
    have Fa1_tableLength_6 := Fa1_tableLength.other W6 (Or.inr (slot_ne (Or.inl (hw _ (List.mem_of_getElem? (i := 72) rfl))) (Or.inl (hw _ (List.mem_of_getElem? (i := 30) rfl))) (by decide) (t := .int) (by decide) (t' := .int) (by decide)))
    have Fa1_rowAt_6 := Fa1_rowAt.other W6 (Or.inr (slot_ne (Or.inl (hw _ (List.mem_of_getElem? (i := 76) rfl))) (Or.inl (hw _ (List.mem_of_getElem? (i := 30) rfl))) (by decide) (t := .int) (by decide) (t' := .int) (by decide)))
    have Fa1_rowLength_6 := Fa1_rowLength.other W6 (Or.inr (slot_ne (Or.inl (hw _ (List.mem_of_getElem? (i := 74) rfl))) (Or.inl (hw _ (List.mem_of_getElem? (i := 30) rfl))) (by decide) (t := .int) (by decide) (t' := .int) (by decide)))
    have Fa1_columnAt_6 := Fa1_columnAt.other W6 (Or.inr (slot_ne (Or.inl (hw _ (List.mem_of_getElem? (i := 80) rfl))) (Or.inl (hw _ (List.mem_of_getElem? (i := 30) rfl))) (by decide) (t := .int) (by decide) (t' := .int) (by decide)))
    have Fa1_columnLength_6 := Fa1_columnLength.other W6 (Or.inr (slot_ne (Or.inl (hw _ (List.mem_of_getElem? (i := 78) rfl))) (Or.inl (hw _ (List.mem_of_getElem? (i := 30) rfl))) (by decide) (t := .int) (by decide) (t' := .int) (by decide)))
    have Fa1_deletion_6 := Fa1_deletion.other W6 (Or.inr (slot_ne (Or.inl (hw _ (List.mem_of_getElem? (i := 82) rfl))) (Or.inl (hw _ (List.mem_of_getElem? (i := 30) rfl))) (by decide) (t := .boolean) (by decide) (t' := .int) (by decide)))
    have Fa1_namesRow_6 := Fa1_namesRow.other W6 (Or.inr (slot_ne (Or.inl (hw _ (List.mem_of_getElem? (i := 39) rfl))) (Or.inl (hw _ (List.mem_of_getElem? (i := 30) rfl))) (by decide) (t := .boolean) (by decide) (t' := .int) (by decide)))
    have Fa1_next_6 := Fa1_next.same W6
    have hk6 := Nat.le_trans hk0 (Nat.le_of_eq W6.size.symm)
    have Vr1_6 := V0.other W6 ne0
    have Ea1_6 := Aa1.wr W6
    have N6 := Fr.snoc X6 N0 g_a1
    have Z6 : n0 ≤ h6.size := Nat.le_trans Z0 (Nat.le_of_eq W6.size.symm)
    have K6 := K0.wr W6 (Or.inl (List.mem_singleton.mpr rfl))
    refine Goes.via (B := T6.setTop (mkF m 44 #[.val (.ref a1), .unset] [(.int (0 : Int32)), (.ref r1)])) st6 ?_
    have Vc7 := Vr1_6
    obtain ⟨cl7, Ar7, q7, S7, M7, H7, G7⟩ := Vc7
    have hin7 : ¬ ((0 : Int32) < 0 ∨ cl7.slots.size ≤ ((0 : Int32)).toNatClampNeg) := inb_of S7 ⟨by decide, by decide⟩
    have hat7 : cl7.slots[((0 : Int32)).toNatClampNeg]? = some (.int (0 : Int32)) := H7.at hin7 hv0
    refine Goes.via (B := T6.setTop (mkF m 45 #[.val (.ref a1), .unset] [(.int (0 : Int32))])) (fun t k => X6.baloadBytes hx (j := (0 : Int32)) (v := (.int (0 : Int32))) (by rw [e6]; exact Ar7.1) (State.isArrayOf_alike hZ.alike Ar7.2.1) Ar7.2.2 hin7 hat7 (g := (mkF m 44 #[.val (.ref a1), .unset] [(.int (0 : Int32)), (.ref r1)])) rfl rfl (hb hby d7_44) _ k) ?_
    refine Goes.via (B := T6.setTop (mkF m 46 #[.val (.ref a1), .val (.int (0 : Int32))] [])) (fun t k => XS.istoreN X6.here hx rfl (hb hby d7_45) rfl (l' := #[.val (.ref a1), .val (.int (0 : Int32))]) rfl k) ?_
    refine Goes.via (B := T6.setTop (mkF m 47 #[.val (.ref a1), .val (.int (0 : Int32))] [(.ref a1)])) (fun t k => XS.aloadN X6.here hx rfl (hb hby d7_46) rfl rfl k) ?_
    refine Goes.via (B := T6.setTop (mkF m 48 #[.val (.ref a1), .val (.int (0 : Int32))] [(.int (0 : Int32)), (.ref a1)])) (fun t k => XS.iloadN X6.here hx rfl (hb hby d7_47) rfl k) ?_
    refine Goes.via (B := T6.setTop (mkF m 56 #[.val (.ref a1), .val (.int (0 : Int32))] [(.ref a1)])) (fun t k => XS.ifYes X6.here hx rfl (pc0 := 48) (pc' := 56) rfl (hb hby d7_48) rfl ((if0 _ _).trans (teq (by decide : (0 : Int32) = (0 : Int32))).1) (by decide) (by decide) k) ?_
    refine Goes.via (B := T6.setTop (mkF m 57 #[.val (.ref a1), .val (.int (0 : Int32))] [(.int (1 : Int32)), (.ref a1)])) (fun t k => XS.iconst X6.here hx rfl (hb hby d7_56) k) ?_
    refine Goes.via (B := T6.setTop (mkF m 61 #[.val (.ref a1), .val (.int (0 : Int32))] [(.int (1 : Int32)), (.ref a1)])) (fun t k => XS.goto X6.here hx rfl (pc0 := 57) (pc' := 61) rfl (hb hby d7_57) (by decide) (by decide) k) ?_
    obtain ⟨T8, h8, X8, e8, W8, st8⟩ := putF X6 hx hZ hown (host := "") (Or.inl (hw _ (List.mem_of_getElem? (i := 38) rfl))) Via.refl e6 Fa1_namesRow_6 Ea1_6 (Or.inl (hw _ (List.mem_of_getElem? (i := 39) rfl))) (hw _ (List.mem_of_getElem? (i := 12) rfl)) (ty := .boolean) (by decide) rfl rfl (g := (mkF m 61 #[.val (.ref a1), .val (.int (0 : Int32))] [(.int (1 : Int32)), (.ref a1)])) rfl rfl (hb hby d7_61)
    have Fa1_run_8 := Fa1_run_6.other W8 (Or.inr (slot_ne (Or.inl (hw _ (List.mem_of_getElem? (i := 26) rfl))) (Or.inl (hw _ (List.mem_of_getElem? (i := 39) rfl))) (by decide) (t := (.array .byte)) (by decide) (t' := .boolean) (by decide)))
    have Fa1_start_8 := Fa1_start_6.other W8 (Or.inr (slot_ne (Or.inl (hw _ (List.mem_of_getElem? (i := 28) rfl))) (Or.inl (hw _ (List.mem_of_getElem? (i := 39) rfl))) (by decide) (t := .long) (by decide) (t' := .boolean) (by decide)))
    have Fa1_next_8 := Fa1_next_6.other W8 (Or.inr (slot_ne (Or.inl (hw _ (List.mem_of_getElem? (i := 30) rfl))) (Or.inl (hw _ (List.mem_of_getElem? (i := 39) rfl))) (by decide) (t := .int) (by decide) (t' := .boolean) (by decide)))
    have Fa1_tableAt_8 := Fa1_tableAt_6.other W8 (Or.inr (slot_ne (Or.inl (hw _ (List.mem_of_getElem? (i := 32) rfl))) (Or.inl (hw _ (List.mem_of_getElem? (i := 39) rfl))) (by decide) (t := .int) (by decide) (t' := .boolean) (by decide)))
    have Fa1_tableLength_8 := Fa1_tableLength_6.other W8 (Or.inr (slot_ne (Or.inl (hw _ (List.mem_of_getElem? (i := 72) rfl))) (Or.inl (hw _ (List.mem_of_getElem? (i := 39) rfl))) (by decide) (t := .int) (by decide) (t' := .boolean) (by decide)))
    have Fa1_rowAt_8 := Fa1_rowAt_6.other W8 (Or.inr (slot_ne (Or.inl (hw _ (List.mem_of_getElem? (i := 76) rfl))) (Or.inl (hw _ (List.mem_of_getElem? (i := 39) rfl))) (by decide) (t := .int) (by decide) (t' := .boolean) (by decide)))
    have Fa1_rowLength_8 := Fa1_rowLength_6.other W8 (Or.inr (slot_ne (Or.inl (hw _ (List.mem_of_getElem? (i := 74) rfl))) (Or.inl (hw _ (List.mem_of_getElem? (i := 39) rfl))) (by decide) (t := .int) (by decide) (t' := .boolean) (by decide)))
    have Fa1_columnAt_8 := Fa1_columnAt_6.other W8 (Or.inr (slot_ne (Or.inl (hw _ (List.mem_of_getElem? (i := 80) rfl))) (Or.inl (hw _ (List.mem_of_getElem? (i := 39) rfl))) (by decide) (t := .int) (by decide) (t' := .boolean) (by decide)))
    have Fa1_columnLength_8 := Fa1_columnLength_6.other W8 (Or.inr (slot_ne (Or.inl (hw _ (List.mem_of_getElem? (i := 78) rfl))) (Or.inl (hw _ (List.mem_of_getElem? (i := 39) rfl))) (by decide) (t := .int) (by decide) (t' := .boolean) (by decide)))
    have Fa1_deletion_8 := Fa1_deletion_6.other W8 (Or.inr (slot_ne (Or.inl (hw _ (List.mem_of_getElem? (i := 82) rfl))) (Or.inl (hw _ (List.mem_of_getElem? (i := 39) rfl))) (by decide) (t := .boolean) (by decide) (t' := .boolean) (by decide)))
    have Fa1_namesRow_8 := Fa1_namesRow_6.same W8
    have hk8 := Nat.le_trans hk6 (Nat.le_of_eq W8.size.symm)
    have Vr1_8 := Vr1_6.other W8 ne0
    have Ea1_8 := Ea1_6.wr W8
    have N8 := Fr.snoc X8 N6 g_a1
    have Z8 : n0 ≤ h8.size := Nat.le_trans Z6 (Nat.le_of_eq W8.size.symm)
    have K8 := K6.wr W8 (Or.inl (List.mem_singleton.mpr rfl))
    refine Goes.via (B := T8.setTop (mkF m 64 #[.val (.ref a1), .val (.int (0 : Int32))] [])) st8 ?_
    refine Goes.via (B := T8.setTop (mkF m 65 #[.val (.ref a1), .val (.int (0 : Int32))] [(.ref a1)])) (fun t k => XS.aloadN X8.here hx rfl (hb hby d7_64) rfl rfl k) ?_
    obtain ⟨T9, X9, e9, st9⟩ := getF X8 hx hZ hown (host := "") (Or.inl (hw _ (List.mem_of_getElem? (i := 38) rfl))) Via.refl e8 Fa1_namesRow_8 (g := (mkF m 65 #[.val (.ref a1), .val (.int (0 : Int32))] [(.ref a1)])) rfl rfl (hb hby d7_65)
    refine Goes.via (B := T9.setTop (mkF m 68 #[.val (.ref a1), .val (.int (0 : Int32))] [(.int (1 : Int32))])) st9 ?_
    refine Goes.via (B := T9.setTop (mkF m 71 #[.val (.ref a1), .val (.int (0 : Int32))] [])) (fun t k => XS.ifNo X9.here hx rfl (hb hby d7_68) rfl ((if0 _ _).trans (feq (by decide : ¬ (1 : Int32) = (0 : Int32))).1) k) ?_
    refine Goes.via (B := T9.setTop (mkF m 72 #[.val (.ref a1), .val (.int (0 : Int32))] [(.ref a1)])) (fun t k => XS.aloadN X9.here hx rfl (hb hby d7_71) rfl rfl k) ?_
    refine Goes.via (B := T9.setTop (mkF m 73 #[.val (.ref a1), .val (.int (0 : Int32))] [(.ref a1), (.ref a1)])) (fun t k => XS.aloadN X9.here hx rfl (hb hby d7_72) rfl rfl k) ?_
    obtain ⟨cq10, q10, q10'⟩ := Ea1_8.cell
    obtain ⟨_, _, ⟨T10, L10, kk10, nn10⟩, -, X10, hB10, gr10, ⟨Lc10, hQ10, l10, y10, z10⟩, st10⟩ := X9.privateBackS hx (y := (⟨"com/example/highwater/highwater/sweep/QueueLayout$RunReader", "part", "()I"⟩ : MethodName)) hown (mvT hZ (hw _ (List.mem_of_getElem? (i := 40) rfl))) (mvT hZ (hw _ (List.mem_of_getElem? (i := 41) rfl))) (own_selects (mvT hZ (hw _ (List.mem_of_getElem? (i := 41) rfl))) (mvP hZ (hw _ (List.mem_of_getElem? (i := 42) rfl)) (args := #[])) (mvT hZ (hw _ (List.mem_of_getElem? (i := 12) rfl))) (by decide)) (Cond.privateMethod_at (mvP hZ (hw _ (List.mem_of_getElem? (i := 42) rfl)) (args := #[]))) (mvT hZ (hw _ (List.mem_of_getElem? (i := 43) rfl))) (by decide) (backOfS (W := 1) (rm6 l Z a0 hw [] a1 r1 k1 vs st (1 : Int32) ta tl ra rl ca cl dl (1 : Int32) A h8 n0 Z8 ⟨Ea1_8, Fa1_run_8, Fa1_start_8, Fa1_next_8, Fa1_tableAt_8, Fa1_tableLength_8, Fa1_rowAt_8, Fa1_rowLength_8, Fa1_columnAt_8, Fa1_columnLength_8, Fa1_deletion_8, Fa1_namesRow_8⟩ Vr1_8 ne0 g_a1 i1 hv1 (by omega) (by omega)) hZ (hw _ (List.mem_of_getElem? (i := 43) rfl)) (hw _ (List.mem_of_getElem? (i := 13) rfl)) (by decide) (by decide)) (g := (mkF m 73 #[.val (.ref a1), .val (.int (0 : Int32))] [(.ref a1), (.ref a1)])) rfl (by rw [hml]; rfl) (Steps.refl _) (a := a1) (by rw [e9]; exact q10) q10' (argsL := []) (rest := [(.ref a1)]) (lenOf pd___I rfl) rfl (by show 2 * 0 + _ ≤ _; exact Nat.le_of_eq rfl) (hb hby d7_73) (fun _ _ => ⟨rfl, e9, (by decide : 0 + 2 ≤ _), (by decide : 0 + 148 ≤ _)⟩)
    dsimp only [Pt.U, Pt.locs, Pt.cells, Pt.slots] at X10 l10 y10 z10 st10 hQ10 hB10 gr10
    subst l10 y10 z10
    obtain ⟨X10, hS10, hZ, hown⟩ := rebS (s := s) hS0 (show _ ≤ T9.heap.size by rw [e9]; exact hk8) X10 hB10 gr10 hZ hown
    obtain ⟨rfl, Nq10, Kq10, Rq10⟩ := hQ10
    have N10 := Fr.app N8 Nq10
    have Vr1_10 := Vr1_8.keep Kq10 (ninS ne0 nin0)
    have Ea1_10 := Ea1_8.keep Kq10
    obtain ⟨Aa110, Fa1_run10, Fa1_start10, Fa1_next10, Fa1_tableAt10, Fa1_tableLength10, Fa1_rowAt10, Fa1_rowLength10, Fa1_columnAt10, Fa1_columnLength10, Fa1_deletion10, Fa1_namesRow10⟩ := Rq10
    have Z10 : n0 ≤ T10.heap.size := Nat.le_trans Z8 Kq10.1
    have K10 : Keep h0 T10.heap [a1] := K8.trans Kq10 (fun x hx => Or.inl hx)
    have eq10 : T10.heap = T10.heap := rfl
    have hk10 : T10.heap.size ≤ T10.heap.size := Nat.le_refl _
    refine Goes.via (B := T10.setTop (mkF m 76 #[.val (.ref a1), .val (.int (0 : Int32))] [(.int A), (.ref a1)])) (fun t k => st10.trans k) ?_
    obtain ⟨T11, h11, X11, e11, W11, st11⟩ := putF X10 hx hZ hown (host := "") (Or.inl (hw _ (List.mem_of_getElem? (i := 71) rfl))) Via.refl eq10 Fa1_tableLength10 Aa110 (Or.inl (hw _ (List.mem_of_getElem? (i := 72) rfl))) (hw _ (List.mem_of_getElem? (i := 12) rfl)) (ty := .int) (by decide) rfl rfl (g := (mkF m 76 #[.val (.ref a1), .val (.int (0 : Int32))] [(.int A), (.ref a1)])) rfl rfl (hb hby d7_76)
    have Fa1_run_11 := Fa1_run10.other W11 (Or.inr (slot_ne (Or.inl (hw _ (List.mem_of_getElem? (i := 26) rfl))) (Or.inl (hw _ (List.mem_of_getElem? (i := 72) rfl))) (by decide) (t := (.array .byte)) (by decide) (t' := .int) (by decide)))
    have Fa1_start_11 := Fa1_start10.other W11 (Or.inr (slot_ne (Or.inl (hw _ (List.mem_of_getElem? (i := 28) rfl))) (Or.inl (hw _ (List.mem_of_getElem? (i := 72) rfl))) (by decide) (t := .long) (by decide) (t' := .int) (by decide)))
    have Fa1_next_11 := Fa1_next10.other W11 (Or.inr (slot_ne (Or.inl (hw _ (List.mem_of_getElem? (i := 30) rfl))) (Or.inl (hw _ (List.mem_of_getElem? (i := 72) rfl))) (by decide) (t := .int) (by decide) (t' := .int) (by decide)))
    have Fa1_tableAt_11 := Fa1_tableAt10.other W11 (Or.inr (slot_ne (Or.inl (hw _ (List.mem_of_getElem? (i := 32) rfl))) (Or.inl (hw _ (List.mem_of_getElem? (i := 72) rfl))) (by decide) (t := .int) (by decide) (t' := .int) (by decide)))
    have Fa1_rowAt_11 := Fa1_rowAt10.other W11 (Or.inr (slot_ne (Or.inl (hw _ (List.mem_of_getElem? (i := 76) rfl))) (Or.inl (hw _ (List.mem_of_getElem? (i := 72) rfl))) (by decide) (t := .int) (by decide) (t' := .int) (by decide)))
    have Fa1_rowLength_11 := Fa1_rowLength10.other W11 (Or.inr (slot_ne (Or.inl (hw _ (List.mem_of_getElem? (i := 74) rfl))) (Or.inl (hw _ (List.mem_of_getElem? (i := 72) rfl))) (by decide) (t := .int) (by decide) (t' := .int) (by decide)))
    have Fa1_columnAt_11 := Fa1_columnAt10.other W11 (Or.inr (slot_ne (Or.inl (hw _ (List.mem_of_getElem? (i := 80) rfl))) (Or.inl (hw _ (List.mem_of_getElem? (i := 72) rfl))) (by decide) (t := .int) (by decide) (t' := .int) (by decide)))
    have Fa1_columnLength_11 := Fa1_columnLength10.other W11 (Or.inr (slot_ne (Or.inl (hw _ (List.mem_of_getElem? (i := 78) rfl))) (Or.inl (hw _ (List.mem_of_getElem? (i := 72) rfl))) (by decide) (t := .int) (by decide) (t' := .int) (by decide)))
    have Fa1_deletion_11 := Fa1_deletion10.other W11 (Or.inr (slot_ne (Or.inl (hw _ (List.mem_of_getElem? (i := 82) rfl))) (Or.inl (hw _ (List.mem_of_getElem? (i := 72) rfl))) (by decide) (t := .boolean) (by decide) (t' := .int) (by decide)))
    have Fa1_namesRow_11 := Fa1_namesRow10.other W11 (Or.inr (slot_ne (Or.inl (hw _ (List.mem_of_getElem? (i := 39) rfl))) (Or.inl (hw _ (List.mem_of_getElem? (i := 72) rfl))) (by decide) (t := .boolean) (by decide) (t' := .int) (by decide)))
    have Fa1_tableLength_11 := Fa1_tableLength10.same W11
    have hk11 := Nat.le_trans hk10 (Nat.le_of_eq W11.size.symm)
    have Vr1_11 := Vr1_10.other W11 ne0
    have Ea1_11 := Aa110.wr W11
    have N11 := Fr.snoc X11 N10 g_a1
    have Z11 : n0 ≤ h11.size := Nat.le_trans Z10 (Nat.le_of_eq W11.size.symm)
    have K11 := K10.wr W11 (Or.inl (List.mem_singleton.mpr rfl))
    refine Goes.via (B := T11.setTop (mkF m 79 #[.val (.ref a1), .val (.int (0 : Int32))] [])) st11 ?_
    refine Goes.via (B := T11.setTop (mkF m 80 #[.val (.ref a1), .val (.int (0 : Int32))] [(.ref a1)])) (fun t k => XS.aloadN X11.here hx rfl (hb hby d7_79) rfl rfl k) ?_
    refine Goes.via (B := T11.setTop (mkF m 81 #[.val (.ref a1), .val (.int (0 : Int32))] [(.ref a1), (.ref a1)])) (fun t k => XS.aloadN X11.here hx rfl (hb hby d7_80) rfl rfl k) ?_
    obtain ⟨T12, X12, e12, st12⟩ := getF X11 hx hZ hown (host := "") (Or.inl (hw _ (List.mem_of_getElem? (i := 29) rfl))) Via.refl e11 Fa1_next_11 (g := (mkF m 81 #[.val (.ref a1), .val (.int (0 : Int32))] [(.ref a1), (.ref a1)])) rfl rfl (hb hby d7_81)
    refine Goes.via (B := T12.setTop (mkF m 84 #[.val (.ref a1), .val (.int (0 : Int32))] [(.int (own_nx (1 : Int32) A)), (.ref a1)])) st12 ?_
    refine Goes.via (B := T12.setTop (mkF m 85 #[.val (.ref a1), .val (.int (0 : Int32))] [(.ref a1), (.int (own_nx (1 : Int32) A)), (.ref a1)])) (fun t k => XS.aloadN X12.here hx rfl (hb hby d7_84) rfl rfl k) ?_
    obtain ⟨T13, X13, e13, st13⟩ := getF X12 hx hZ hown (host := "") (Or.inl (hw _ (List.mem_of_getElem? (i := 71) rfl))) Via.refl e12 Fa1_tableLength_11 (g := (mkF m 85 #[.val (.ref a1), .val (.int (0 : Int32))] [(.ref a1), (.int (own_nx (1 : Int32) A)), (.ref a1)])) rfl rfl (hb hby d7_85)
    refine Goes.via (B := T13.setTop (mkF m 88 #[.val (.ref a1), .val (.int (0 : Int32))] [(.int A), (.int (own_nx (1 : Int32) A)), (.ref a1)])) st13 ?_
    refine Goes.via (B := T13.setTop (mkF m 89 #[.val (.ref a1), .val (.int (0 : Int32))] [(.int ((own_nx (1 : Int32) A) - A)), (.ref a1)])) (fun t k => XS.isub X13.here hx rfl (hb hby d7_88) rfl k) ?_
    obtain ⟨T14, h14, X14, e14, W14, st14⟩ := putF X13 hx hZ hown (host := "") (Or.inl (hw _ (List.mem_of_getElem? (i := 31) rfl))) Via.refl e13 Fa1_tableAt_11 Ea1_11 (Or.inl (hw _ (List.mem_of_getElem? (i := 32) rfl))) (hw _ (List.mem_of_getElem? (i := 12) rfl)) (ty := .int) (by decide) rfl rfl (g := (mkF m 89 #[.val (.ref a1), .val (.int (0 : Int32))] [(.int ((own_nx (1 : Int32) A) - A)), (.ref a1)])) rfl rfl (hb hby d7_89)
    have Fa1_run_14 := Fa1_run_11.other W14 (Or.inr (slot_ne (Or.inl (hw _ (List.mem_of_getElem? (i := 26) rfl))) (Or.inl (hw _ (List.mem_of_getElem? (i := 32) rfl))) (by decide) (t := (.array .byte)) (by decide) (t' := .int) (by decide)))
    have Fa1_start_14 := Fa1_start_11.other W14 (Or.inr (slot_ne (Or.inl (hw _ (List.mem_of_getElem? (i := 28) rfl))) (Or.inl (hw _ (List.mem_of_getElem? (i := 32) rfl))) (by decide) (t := .long) (by decide) (t' := .int) (by decide)))
    have Fa1_next_14 := Fa1_next_11.other W14 (Or.inr (slot_ne (Or.inl (hw _ (List.mem_of_getElem? (i := 30) rfl))) (Or.inl (hw _ (List.mem_of_getElem? (i := 32) rfl))) (by decide) (t := .int) (by decide) (t' := .int) (by decide)))
    have Fa1_tableLength_14 := Fa1_tableLength_11.other W14 (Or.inr (slot_ne (Or.inl (hw _ (List.mem_of_getElem? (i := 72) rfl))) (Or.inl (hw _ (List.mem_of_getElem? (i := 32) rfl))) (by decide) (t := .int) (by decide) (t' := .int) (by decide)))
    have Fa1_rowAt_14 := Fa1_rowAt_11.other W14 (Or.inr (slot_ne (Or.inl (hw _ (List.mem_of_getElem? (i := 76) rfl))) (Or.inl (hw _ (List.mem_of_getElem? (i := 32) rfl))) (by decide) (t := .int) (by decide) (t' := .int) (by decide)))
    have Fa1_rowLength_14 := Fa1_rowLength_11.other W14 (Or.inr (slot_ne (Or.inl (hw _ (List.mem_of_getElem? (i := 74) rfl))) (Or.inl (hw _ (List.mem_of_getElem? (i := 32) rfl))) (by decide) (t := .int) (by decide) (t' := .int) (by decide)))
    have Fa1_columnAt_14 := Fa1_columnAt_11.other W14 (Or.inr (slot_ne (Or.inl (hw _ (List.mem_of_getElem? (i := 80) rfl))) (Or.inl (hw _ (List.mem_of_getElem? (i := 32) rfl))) (by decide) (t := .int) (by decide) (t' := .int) (by decide)))
    have Fa1_columnLength_14 := Fa1_columnLength_11.other W14 (Or.inr (slot_ne (Or.inl (hw _ (List.mem_of_getElem? (i := 78) rfl))) (Or.inl (hw _ (List.mem_of_getElem? (i := 32) rfl))) (by decide) (t := .int) (by decide) (t' := .int) (by decide)))
    have Fa1_deletion_14 := Fa1_deletion_11.other W14 (Or.inr (slot_ne (Or.inl (hw _ (List.mem_of_getElem? (i := 82) rfl))) (Or.inl (hw _ (List.mem_of_getElem? (i := 32) rfl))) (by decide) (t := .boolean) (by decide) (t' := .int) (by decide)))
    have Fa1_namesRow_14 := Fa1_namesRow_11.other W14 (Or.inr (slot_ne (Or.inl (hw _ (List.mem_of_getElem? (i := 39) rfl))) (Or.inl (hw _ (List.mem_of_getElem? (i := 32) rfl))) (by decide) (t := .boolean) (by decide) (t' := .int) (by decide)))
    have Fa1_tableAt_14 := Fa1_tableAt_11.same W14
    have hk14 := Nat.le_trans hk11 (Nat.le_of_eq W14.size.symm)
    have Vr1_14 := Vr1_11.other W14 ne0
    have Ea1_14 := Ea1_11.wr W14
    have N14 := Fr.snoc X14 N11 g_a1
    have Z14 : n0 ≤ h14.size := Nat.le_trans Z11 (Nat.le_of_eq W14.size.symm)
    have K14 := K11.wr W14 (Or.inl (List.mem_singleton.mpr rfl))
    refine Goes.via (B := T14.setTop (mkF m 92 #[.val (.ref a1), .val (.int (0 : Int32))] [])) st14 ?_
    refine Goes.via (B := T14.setTop (mkF m 93 #[.val (.ref a1), .val (.int (0 : Int32))] [(.ref a1)])) (fun t k => XS.aloadN X14.here hx rfl (hb hby d7_92) rfl rfl k) ?_
    refine Goes.via (B := T14.setTop (mkF m 94 #[.val (.ref a1), .val (.int (0 : Int32))] [(.ref a1), (.ref a1)])) (fun t k => XS.aloadN X14.here hx rfl (hb hby d7_93) rfl rfl k) ?_
    obtain ⟨cq15, q15, q15'⟩ := Ea1_14.cell
    obtain ⟨_, _, ⟨T15, L15, kk15, nn15⟩, -, X15, hB15, gr15, ⟨Lc15, hQ15, l15, y15, z15⟩, st15⟩ := X14.privateBackS hx (y := (⟨"com/example/highwater/highwater/sweep/QueueLayout$RunReader", "part", "()I"⟩ : MethodName)) hown (mvT hZ (hw _ (List.mem_of_getElem? (i := 40) rfl))) (mvT hZ (hw _ (List.mem_of_getElem? (i := 41) rfl))) (own_selects (mvT hZ (hw _ (List.mem_of_getElem? (i := 41) rfl))) (mvP hZ (hw _ (List.mem_of_getElem? (i := 42) rfl)) (args := #[])) (mvT hZ (hw _ (List.mem_of_getElem? (i := 12) rfl))) (by decide)) (Cond.privateMethod_at (mvP hZ (hw _ (List.mem_of_getElem? (i := 42) rfl)) (args := #[]))) (mvT hZ (hw _ (List.mem_of_getElem? (i := 43) rfl))) (by decide) (backOfS (W := 1) (rm6 l Z a0 hw [] a1 r1 k1 vs st (own_nx (1 : Int32) A) ((own_nx (1 : Int32) A) - A) A ra rl ca cl dl (1 : Int32) B h14 n0 Z14 ⟨Ea1_14, Fa1_run_14, Fa1_start_14, Fa1_next_14, Fa1_tableAt_14, Fa1_tableLength_14, Fa1_rowAt_14, Fa1_rowLength_14, Fa1_columnAt_14, Fa1_columnLength_14, Fa1_deletion_14, Fa1_namesRow_14⟩ Vr1_14 ne0 g_a1 i2 hv2 (by omega) (by omega)) hZ (hw _ (List.mem_of_getElem? (i := 43) rfl)) (hw _ (List.mem_of_getElem? (i := 13) rfl)) (by decide) (by decide)) (g := (mkF m 94 #[.val (.ref a1), .val (.int (0 : Int32))] [(.ref a1), (.ref a1)])) rfl (by rw [hml]; rfl) (Steps.refl _) (a := a1) (by rw [e14]; exact q15) q15' (argsL := []) (rest := [(.ref a1)]) (lenOf pd___I rfl) rfl (by show 2 * 0 + _ ≤ _; exact Nat.le_of_eq rfl) (hb hby d7_94) (fun _ _ => ⟨rfl, e14, (by decide : 2 + 2 ≤ _), (by decide : 148 + 148 ≤ _)⟩)
    dsimp only [Pt.U, Pt.locs, Pt.cells, Pt.slots] at X15 l15 y15 z15 st15 hQ15 hB15 gr15
    subst l15 y15 z15
    obtain ⟨X15, hS15, hZ, hown⟩ := rebS (s := s) hS10 (show _ ≤ T14.heap.size by rw [e14]; exact hk14) X15 hB15 gr15 hZ hown
    obtain ⟨rfl, Nq15, Kq15, Rq15⟩ := hQ15
    have N15 := Fr.app N14 Nq15
    have Vr1_15 := Vr1_14.keep Kq15 (ninS ne0 nin0)
    have Ea1_15 := Ea1_14.keep Kq15
    obtain ⟨Aa115, Fa1_run15, Fa1_start15, Fa1_next15, Fa1_tableAt15, Fa1_tableLength15, Fa1_rowAt15, Fa1_rowLength15, Fa1_columnAt15, Fa1_columnLength15, Fa1_deletion15, Fa1_namesRow15⟩ := Rq15
    have Z15 : n0 ≤ T15.heap.size := Nat.le_trans Z14 Kq15.1
    have K15 : Keep h0 T15.heap [a1] := K14.trans Kq15 (fun x hx => Or.inl hx)
    have eq15 : T15.heap = T15.heap := rfl
    have hk15 : T15.heap.size ≤ T15.heap.size := Nat.le_refl _
    refine Goes.via (B := T15.setTop (mkF m 97 #[.val (.ref a1), .val (.int (0 : Int32))] [(.int B), (.ref a1)])) (fun t k => st15.trans k) ?_
    obtain ⟨T16, h16, X16, e16, W16, st16⟩ := putF X15 hx hZ hown (host := "") (Or.inl (hw _ (List.mem_of_getElem? (i := 73) rfl))) Via.refl eq15 Fa1_rowLength15 Aa115 (Or.inl (hw _ (List.mem_of_getElem? (i := 74) rfl))) (hw _ (List.mem_of_getElem? (i := 12) rfl)) (ty := .int) (by decide) rfl rfl (g := (mkF m 97 #[.val (.ref a1), .val (.int (0 : Int32))] [(.int B), (.ref a1)])) rfl rfl (hb hby d7_97)
    have Fa1_run_16 := Fa1_run15.other W16 (Or.inr (slot_ne (Or.inl (hw _ (List.mem_of_getElem? (i := 26) rfl))) (Or.inl (hw _ (List.mem_of_getElem? (i := 74) rfl))) (by decide) (t := (.array .byte)) (by decide) (t' := .int) (by decide)))
    have Fa1_start_16 := Fa1_start15.other W16 (Or.inr (slot_ne (Or.inl (hw _ (List.mem_of_getElem? (i := 28) rfl))) (Or.inl (hw _ (List.mem_of_getElem? (i := 74) rfl))) (by decide) (t := .long) (by decide) (t' := .int) (by decide)))
    have Fa1_next_16 := Fa1_next15.other W16 (Or.inr (slot_ne (Or.inl (hw _ (List.mem_of_getElem? (i := 30) rfl))) (Or.inl (hw _ (List.mem_of_getElem? (i := 74) rfl))) (by decide) (t := .int) (by decide) (t' := .int) (by decide)))
    have Fa1_tableAt_16 := Fa1_tableAt15.other W16 (Or.inr (slot_ne (Or.inl (hw _ (List.mem_of_getElem? (i := 32) rfl))) (Or.inl (hw _ (List.mem_of_getElem? (i := 74) rfl))) (by decide) (t := .int) (by decide) (t' := .int) (by decide)))
    have Fa1_tableLength_16 := Fa1_tableLength15.other W16 (Or.inr (slot_ne (Or.inl (hw _ (List.mem_of_getElem? (i := 72) rfl))) (Or.inl (hw _ (List.mem_of_getElem? (i := 74) rfl))) (by decide) (t := .int) (by decide) (t' := .int) (by decide)))
    have Fa1_rowAt_16 := Fa1_rowAt15.other W16 (Or.inr (slot_ne (Or.inl (hw _ (List.mem_of_getElem? (i := 76) rfl))) (Or.inl (hw _ (List.mem_of_getElem? (i := 74) rfl))) (by decide) (t := .int) (by decide) (t' := .int) (by decide)))
    have Fa1_columnAt_16 := Fa1_columnAt15.other W16 (Or.inr (slot_ne (Or.inl (hw _ (List.mem_of_getElem? (i := 80) rfl))) (Or.inl (hw _ (List.mem_of_getElem? (i := 74) rfl))) (by decide) (t := .int) (by decide) (t' := .int) (by decide)))
    have Fa1_columnLength_16 := Fa1_columnLength15.other W16 (Or.inr (slot_ne (Or.inl (hw _ (List.mem_of_getElem? (i := 78) rfl))) (Or.inl (hw _ (List.mem_of_getElem? (i := 74) rfl))) (by decide) (t := .int) (by decide) (t' := .int) (by decide)))
    have Fa1_deletion_16 := Fa1_deletion15.other W16 (Or.inr (slot_ne (Or.inl (hw _ (List.mem_of_getElem? (i := 82) rfl))) (Or.inl (hw _ (List.mem_of_getElem? (i := 74) rfl))) (by decide) (t := .boolean) (by decide) (t' := .int) (by decide)))
    have Fa1_namesRow_16 := Fa1_namesRow15.other W16 (Or.inr (slot_ne (Or.inl (hw _ (List.mem_of_getElem? (i := 39) rfl))) (Or.inl (hw _ (List.mem_of_getElem? (i := 74) rfl))) (by decide) (t := .boolean) (by decide) (t' := .int) (by decide)))
    have Fa1_rowLength_16 := Fa1_rowLength15.same W16
    have hk16 := Nat.le_trans hk15 (Nat.le_of_eq W16.size.symm)
    have Vr1_16 := Vr1_15.other W16 ne0
    have Ea1_16 := Aa115.wr W16
    have N16 := Fr.snoc X16 N15 g_a1
    have Z16 : n0 ≤ h16.size := Nat.le_trans Z15 (Nat.le_of_eq W16.size.symm)
    have K16 := K15.wr W16 (Or.inl (List.mem_singleton.mpr rfl))
    refine Goes.via (B := T16.setTop (mkF m 100 #[.val (.ref a1), .val (.int (0 : Int32))] [])) st16 ?_
    refine Goes.via (B := T16.setTop (mkF m 101 #[.val (.ref a1), .val (.int (0 : Int32))] [(.ref a1)])) (fun t k => XS.aloadN X16.here hx rfl (hb hby d7_100) rfl rfl k) ?_
    refine Goes.via (B := T16.setTop (mkF m 102 #[.val (.ref a1), .val (.int (0 : Int32))] [(.ref a1), (.ref a1)])) (fun t k => XS.aloadN X16.here hx rfl (hb hby d7_101) rfl rfl k) ?_
    obtain ⟨T17, X17, e17, st17⟩ := getF X16 hx hZ hown (host := "") (Or.inl (hw _ (List.mem_of_getElem? (i := 29) rfl))) Via.refl e16 Fa1_next_16 (g := (mkF m 102 #[.val (.ref a1), .val (.int (0 : Int32))] [(.ref a1), (.ref a1)])) rfl rfl (hb hby d7_102)
    refine Goes.via (B := T17.setTop (mkF m 105 #[.val (.ref a1), .val (.int (0 : Int32))] [(.int (own_nx (own_nx (1 : Int32) A) B)), (.ref a1)])) st17 ?_
    refine Goes.via (B := T17.setTop (mkF m 106 #[.val (.ref a1), .val (.int (0 : Int32))] [(.ref a1), (.int (own_nx (own_nx (1 : Int32) A) B)), (.ref a1)])) (fun t k => XS.aloadN X17.here hx rfl (hb hby d7_105) rfl rfl k) ?_
    obtain ⟨T18, X18, e18, st18⟩ := getF X17 hx hZ hown (host := "") (Or.inl (hw _ (List.mem_of_getElem? (i := 73) rfl))) Via.refl e17 Fa1_rowLength_16 (g := (mkF m 106 #[.val (.ref a1), .val (.int (0 : Int32))] [(.ref a1), (.int (own_nx (own_nx (1 : Int32) A) B)), (.ref a1)])) rfl rfl (hb hby d7_106)
    refine Goes.via (B := T18.setTop (mkF m 109 #[.val (.ref a1), .val (.int (0 : Int32))] [(.int B), (.int (own_nx (own_nx (1 : Int32) A) B)), (.ref a1)])) st18 ?_
    refine Goes.via (B := T18.setTop (mkF m 110 #[.val (.ref a1), .val (.int (0 : Int32))] [(.int ((own_nx (own_nx (1 : Int32) A) B) - B)), (.ref a1)])) (fun t k => XS.isub X18.here hx rfl (hb hby d7_109) rfl k) ?_
    obtain ⟨T19, h19, X19, e19, W19, st19⟩ := putF X18 hx hZ hown (host := "") (Or.inl (hw _ (List.mem_of_getElem? (i := 75) rfl))) Via.refl e18 Fa1_rowAt_16 Ea1_16 (Or.inl (hw _ (List.mem_of_getElem? (i := 76) rfl))) (hw _ (List.mem_of_getElem? (i := 12) rfl)) (ty := .int) (by decide) rfl rfl (g := (mkF m 110 #[.val (.ref a1), .val (.int (0 : Int32))] [(.int ((own_nx (own_nx (1 : Int32) A) B) - B)), (.ref a1)])) rfl rfl (hb hby d7_110)
    have Fa1_run_19 := Fa1_run_16.other W19 (Or.inr (slot_ne (Or.inl (hw _ (List.mem_of_getElem? (i := 26) rfl))) (Or.inl (hw _ (List.mem_of_getElem? (i := 76) rfl))) (by decide) (t := (.array .byte)) (by decide) (t' := .int) (by decide)))
    have Fa1_start_19 := Fa1_start_16.other W19 (Or.inr (slot_ne (Or.inl (hw _ (List.mem_of_getElem? (i := 28) rfl))) (Or.inl (hw _ (List.mem_of_getElem? (i := 76) rfl))) (by decide) (t := .long) (by decide) (t' := .int) (by decide)))
    have Fa1_next_19 := Fa1_next_16.other W19 (Or.inr (slot_ne (Or.inl (hw _ (List.mem_of_getElem? (i := 30) rfl))) (Or.inl (hw _ (List.mem_of_getElem? (i := 76) rfl))) (by decide) (t := .int) (by decide) (t' := .int) (by decide)))
    have Fa1_tableAt_19 := Fa1_tableAt_16.other W19 (Or.inr (slot_ne (Or.inl (hw _ (List.mem_of_getElem? (i := 32) rfl))) (Or.inl (hw _ (List.mem_of_getElem? (i := 76) rfl))) (by decide) (t := .int) (by decide) (t' := .int) (by decide)))
    have Fa1_tableLength_19 := Fa1_tableLength_16.other W19 (Or.inr (slot_ne (Or.inl (hw _ (List.mem_of_getElem? (i := 72) rfl))) (Or.inl (hw _ (List.mem_of_getElem? (i := 76) rfl))) (by decide) (t := .int) (by decide) (t' := .int) (by decide)))
    have Fa1_rowLength_19 := Fa1_rowLength_16.other W19 (Or.inr (slot_ne (Or.inl (hw _ (List.mem_of_getElem? (i := 74) rfl))) (Or.inl (hw _ (List.mem_of_getElem? (i := 76) rfl))) (by decide) (t := .int) (by decide) (t' := .int) (by decide)))
    have Fa1_columnAt_19 := Fa1_columnAt_16.other W19 (Or.inr (slot_ne (Or.inl (hw _ (List.mem_of_getElem? (i := 80) rfl))) (Or.inl (hw _ (List.mem_of_getElem? (i := 76) rfl))) (by decide) (t := .int) (by decide) (t' := .int) (by decide)))
    have Fa1_columnLength_19 := Fa1_columnLength_16.other W19 (Or.inr (slot_ne (Or.inl (hw _ (List.mem_of_getElem? (i := 78) rfl))) (Or.inl (hw _ (List.mem_of_getElem? (i := 76) rfl))) (by decide) (t := .int) (by decide) (t' := .int) (by decide)))
    have Fa1_deletion_19 := Fa1_deletion_16.other W19 (Or.inr (slot_ne (Or.inl (hw _ (List.mem_of_getElem? (i := 82) rfl))) (Or.inl (hw _ (List.mem_of_getElem? (i := 76) rfl))) (by decide) (t := .boolean) (by decide) (t' := .int) (by decide)))
    have Fa1_namesRow_19 := Fa1_namesRow_16.other W19 (Or.inr (slot_ne (Or.inl (hw _ (List.mem_of_getElem? (i := 39) rfl))) (Or.inl (hw _ (List.mem_of_getElem? (i := 76) rfl))) (by decide) (t := .boolean) (by decide) (t' := .int) (by decide)))
    have Fa1_rowAt_19 := Fa1_rowAt_16.same W19
    have hk19 := Nat.le_trans hk16 (Nat.le_of_eq W19.size.symm)
    have Vr1_19 := Vr1_16.other W19 ne0
    have Ea1_19 := Ea1_16.wr W19
    have N19 := Fr.snoc X19 N16 g_a1
    have Z19 : n0 ≤ h19.size := Nat.le_trans Z16 (Nat.le_of_eq W19.size.symm)
    have K19 := K16.wr W19 (Or.inl (List.mem_singleton.mpr rfl))
    refine Goes.via (B := T19.setTop (mkF m 113 #[.val (.ref a1), .val (.int (0 : Int32))] [])) st19 ?_
    refine Goes.via (B := T19.setTop (mkF m 141 #[.val (.ref a1), .val (.int (0 : Int32))] [])) (fun t k => XS.goto X19.here hx rfl (pc0 := 113) (pc' := 141) rfl (hb hby d7_113) (by decide) (by decide) k) ?_
    refine Goes.via (B := T19.setTop (mkF m 142 #[.val (.ref a1), .val (.int (0 : Int32))] [(.ref a1)])) (fun t k => XS.aloadN X19.here hx rfl (hb hby d7_141) rfl rfl k) ?_
    refine Goes.via (B := T19.setTop (mkF m 143 #[.val (.ref a1), .val (.int (0 : Int32))] [(.ref a1), (.ref a1)])) (fun t k => XS.aloadN X19.here hx rfl (hb hby d7_142) rfl rfl k) ?_
    obtain ⟨cq20, q20, q20'⟩ := Ea1_19.cell
    obtain ⟨_, _, ⟨T20, L20, kk20, nn20⟩, -, X20, hB20, gr20, ⟨Lc20, hQ20, l20, y20, z20⟩, st20⟩ := X19.privateBackS hx (y := (⟨"com/example/highwater/highwater/sweep/QueueLayout$RunReader", "part", "()I"⟩ : MethodName)) hown (mvT hZ (hw _ (List.mem_of_getElem? (i := 40) rfl))) (mvT hZ (hw _ (List.mem_of_getElem? (i := 41) rfl))) (own_selects (mvT hZ (hw _ (List.mem_of_getElem? (i := 41) rfl))) (mvP hZ (hw _ (List.mem_of_getElem? (i := 42) rfl)) (args := #[])) (mvT hZ (hw _ (List.mem_of_getElem? (i := 12) rfl))) (by decide)) (Cond.privateMethod_at (mvP hZ (hw _ (List.mem_of_getElem? (i := 42) rfl)) (args := #[]))) (mvT hZ (hw _ (List.mem_of_getElem? (i := 43) rfl))) (by decide) (backOfS (W := 1) (rm6 l Z a0 hw [] a1 r1 k1 vs st (own_nx (own_nx (1 : Int32) A) B) ((own_nx (1 : Int32) A) - A) A ((own_nx (own_nx (1 : Int32) A) B) - B) B ca cl dl (1 : Int32) C h19 n0 Z19 ⟨Ea1_19, Fa1_run_19, Fa1_start_19, Fa1_next_19, Fa1_tableAt_19, Fa1_tableLength_19, Fa1_rowAt_19, Fa1_rowLength_19, Fa1_columnAt_19, Fa1_columnLength_19, Fa1_deletion_19, Fa1_namesRow_19⟩ Vr1_19 ne0 g_a1 i3 hv3 (by omega) (by omega)) hZ (hw _ (List.mem_of_getElem? (i := 43) rfl)) (hw _ (List.mem_of_getElem? (i := 13) rfl)) (by decide) (by decide)) (g := (mkF m 143 #[.val (.ref a1), .val (.int (0 : Int32))] [(.ref a1), (.ref a1)])) rfl (by rw [hml]; rfl) (Steps.refl _) (a := a1) (by rw [e19]; exact q20) q20' (argsL := []) (rest := [(.ref a1)]) (lenOf pd___I rfl) rfl (by show 2 * 0 + _ ≤ _; exact Nat.le_of_eq rfl) (hb hby d7_143) (fun _ _ => ⟨rfl, e19, (by decide : 4 + 2 ≤ _), (by decide : 296 + 148 ≤ _)⟩)
    dsimp only [Pt.U, Pt.locs, Pt.cells, Pt.slots] at X20 l20 y20 z20 st20 hQ20 hB20 gr20
    subst l20 y20 z20
    obtain ⟨X20, hS20, hZ, hown⟩ := rebS (s := s) hS15 (show _ ≤ T19.heap.size by rw [e19]; exact hk19) X20 hB20 gr20 hZ hown
    obtain ⟨rfl, Nq20, Kq20, Rq20⟩ := hQ20
    have N20 := Fr.app N19 Nq20
    have Vr1_20 := Vr1_19.keep Kq20 (ninS ne0 nin0)
    have Ea1_20 := Ea1_19.keep Kq20
    obtain ⟨Aa120, Fa1_run20, Fa1_start20, Fa1_next20, Fa1_tableAt20, Fa1_tableLength20, Fa1_rowAt20, Fa1_rowLength20, Fa1_columnAt20, Fa1_columnLength20, Fa1_deletion20, Fa1_namesRow20⟩ := Rq20
    have Z20 : n0 ≤ T20.heap.size := Nat.le_trans Z19 Kq20.1
    have K20 : Keep h0 T20.heap [a1] := K19.trans Kq20 (fun x hx => Or.inl hx)
    have eq20 : T20.heap = T20.heap := rfl
    have hk20 : T20.heap.size ≤ T20.heap.size := Nat.le_refl _
    refine Goes.via (B := T20.setTop (mkF m 146 #[.val (.ref a1), .val (.int (0 : Int32))] [(.int C), (.ref a1)])) (fun t k => st20.trans k) ?_
    obtain ⟨T21, h21, X21, e21, W21, st21⟩ := putF X20 hx hZ hown (host := "") (Or.inl (hw _ (List.mem_of_getElem? (i := 77) rfl))) Via.refl eq20 Fa1_columnLength20 Aa120 (Or.inl (hw _ (List.mem_of_getElem? (i := 78) rfl))) (hw _ (List.mem_of_getElem? (i := 12) rfl)) (ty := .int) (by decide) rfl rfl (g := (mkF m 146 #[.val (.ref a1), .val (.int (0 : Int32))] [(.int C), (.ref a1)])) rfl rfl (hb hby d7_146)
    have Fa1_run_21 := Fa1_run20.other W21 (Or.inr (slot_ne (Or.inl (hw _ (List.mem_of_getElem? (i := 26) rfl))) (Or.inl (hw _ (List.mem_of_getElem? (i := 78) rfl))) (by decide) (t := (.array .byte)) (by decide) (t' := .int) (by decide)))
    have Fa1_start_21 := Fa1_start20.other W21 (Or.inr (slot_ne (Or.inl (hw _ (List.mem_of_getElem? (i := 28) rfl))) (Or.inl (hw _ (List.mem_of_getElem? (i := 78) rfl))) (by decide) (t := .long) (by decide) (t' := .int) (by decide)))
    have Fa1_next_21 := Fa1_next20.other W21 (Or.inr (slot_ne (Or.inl (hw _ (List.mem_of_getElem? (i := 30) rfl))) (Or.inl (hw _ (List.mem_of_getElem? (i := 78) rfl))) (by decide) (t := .int) (by decide) (t' := .int) (by decide)))
    have Fa1_tableAt_21 := Fa1_tableAt20.other W21 (Or.inr (slot_ne (Or.inl (hw _ (List.mem_of_getElem? (i := 32) rfl))) (Or.inl (hw _ (List.mem_of_getElem? (i := 78) rfl))) (by decide) (t := .int) (by decide) (t' := .int) (by decide)))
    have Fa1_tableLength_21 := Fa1_tableLength20.other W21 (Or.inr (slot_ne (Or.inl (hw _ (List.mem_of_getElem? (i := 72) rfl))) (Or.inl (hw _ (List.mem_of_getElem? (i := 78) rfl))) (by decide) (t := .int) (by decide) (t' := .int) (by decide)))
    have Fa1_rowAt_21 := Fa1_rowAt20.other W21 (Or.inr (slot_ne (Or.inl (hw _ (List.mem_of_getElem? (i := 76) rfl))) (Or.inl (hw _ (List.mem_of_getElem? (i := 78) rfl))) (by decide) (t := .int) (by decide) (t' := .int) (by decide)))
    have Fa1_rowLength_21 := Fa1_rowLength20.other W21 (Or.inr (slot_ne (Or.inl (hw _ (List.mem_of_getElem? (i := 74) rfl))) (Or.inl (hw _ (List.mem_of_getElem? (i := 78) rfl))) (by decide) (t := .int) (by decide) (t' := .int) (by decide)))
    have Fa1_columnAt_21 := Fa1_columnAt20.other W21 (Or.inr (slot_ne (Or.inl (hw _ (List.mem_of_getElem? (i := 80) rfl))) (Or.inl (hw _ (List.mem_of_getElem? (i := 78) rfl))) (by decide) (t := .int) (by decide) (t' := .int) (by decide)))
    have Fa1_deletion_21 := Fa1_deletion20.other W21 (Or.inr (slot_ne (Or.inl (hw _ (List.mem_of_getElem? (i := 82) rfl))) (Or.inl (hw _ (List.mem_of_getElem? (i := 78) rfl))) (by decide) (t := .boolean) (by decide) (t' := .int) (by decide)))
    have Fa1_namesRow_21 := Fa1_namesRow20.other W21 (Or.inr (slot_ne (Or.inl (hw _ (List.mem_of_getElem? (i := 39) rfl))) (Or.inl (hw _ (List.mem_of_getElem? (i := 78) rfl))) (by decide) (t := .boolean) (by decide) (t' := .int) (by decide)))
    have Fa1_columnLength_21 := Fa1_columnLength20.same W21
    have hk21 := Nat.le_trans hk20 (Nat.le_of_eq W21.size.symm)
    have Vr1_21 := Vr1_20.other W21 ne0
    have Ea1_21 := Aa120.wr W21
    have N21 := Fr.snoc X21 N20 g_a1
    have Z21 : n0 ≤ h21.size := Nat.le_trans Z20 (Nat.le_of_eq W21.size.symm)
    have K21 := K20.wr W21 (Or.inl (List.mem_singleton.mpr rfl))
    refine Goes.via (B := T21.setTop (mkF m 149 #[.val (.ref a1), .val (.int (0 : Int32))] [])) st21 ?_
    refine Goes.via (B := T21.setTop (mkF m 150 #[.val (.ref a1), .val (.int (0 : Int32))] [(.ref a1)])) (fun t k => XS.aloadN X21.here hx rfl (hb hby d7_149) rfl rfl k) ?_
    refine Goes.via (B := T21.setTop (mkF m 151 #[.val (.ref a1), .val (.int (0 : Int32))] [(.ref a1), (.ref a1)])) (fun t k => XS.aloadN X21.here hx rfl (hb hby d7_150) rfl rfl k) ?_
    obtain ⟨T22, X22, e22, st22⟩ := getF X21 hx hZ hown (host := "") (Or.inl (hw _ (List.mem_of_getElem? (i := 29) rfl))) Via.refl e21 Fa1_next_21 (g := (mkF m 151 #[.val (.ref a1), .val (.int (0 : Int32))] [(.ref a1), (.ref a1)])) rfl rfl (hb hby d7_151)
    refine Goes.via (B := T22.setTop (mkF m 154 #[.val (.ref a1), .val (.int (0 : Int32))] [(.int (own_nx (own_nx (own_nx (1 : Int32) A) B) C)), (.ref a1)])) st22 ?_
    refine Goes.via (B := T22.setTop (mkF m 155 #[.val (.ref a1), .val (.int (0 : Int32))] [(.ref a1), (.int (own_nx (own_nx (own_nx (1 : Int32) A) B) C)), (.ref a1)])) (fun t k => XS.aloadN X22.here hx rfl (hb hby d7_154) rfl rfl k) ?_
    obtain ⟨T23, X23, e23, st23⟩ := getF X22 hx hZ hown (host := "") (Or.inl (hw _ (List.mem_of_getElem? (i := 77) rfl))) Via.refl e22 Fa1_columnLength_21 (g := (mkF m 155 #[.val (.ref a1), .val (.int (0 : Int32))] [(.ref a1), (.int (own_nx (own_nx (own_nx (1 : Int32) A) B) C)), (.ref a1)])) rfl rfl (hb hby d7_155)
    refine Goes.via (B := T23.setTop (mkF m 158 #[.val (.ref a1), .val (.int (0 : Int32))] [(.int C), (.int (own_nx (own_nx (own_nx (1 : Int32) A) B) C)), (.ref a1)])) st23 ?_
    refine Goes.via (B := T23.setTop (mkF m 159 #[.val (.ref a1), .val (.int (0 : Int32))] [(.int ((own_nx (own_nx (own_nx (1 : Int32) A) B) C) - C)), (.ref a1)])) (fun t k => XS.isub X23.here hx rfl (hb hby d7_158) rfl k) ?_
    obtain ⟨T24, h24, X24, e24, W24, st24⟩ := putF X23 hx hZ hown (host := "") (Or.inl (hw _ (List.mem_of_getElem? (i := 79) rfl))) Via.refl e23 Fa1_columnAt_21 Ea1_21 (Or.inl (hw _ (List.mem_of_getElem? (i := 80) rfl))) (hw _ (List.mem_of_getElem? (i := 12) rfl)) (ty := .int) (by decide) rfl rfl (g := (mkF m 159 #[.val (.ref a1), .val (.int (0 : Int32))] [(.int ((own_nx (own_nx (own_nx (1 : Int32) A) B) C) - C)), (.ref a1)])) rfl rfl (hb hby d7_159)
    have Fa1_run_24 := Fa1_run_21.other W24 (Or.inr (slot_ne (Or.inl (hw _ (List.mem_of_getElem? (i := 26) rfl))) (Or.inl (hw _ (List.mem_of_getElem? (i := 80) rfl))) (by decide) (t := (.array .byte)) (by decide) (t' := .int) (by decide)))
    have Fa1_start_24 := Fa1_start_21.other W24 (Or.inr (slot_ne (Or.inl (hw _ (List.mem_of_getElem? (i := 28) rfl))) (Or.inl (hw _ (List.mem_of_getElem? (i := 80) rfl))) (by decide) (t := .long) (by decide) (t' := .int) (by decide)))
    have Fa1_next_24 := Fa1_next_21.other W24 (Or.inr (slot_ne (Or.inl (hw _ (List.mem_of_getElem? (i := 30) rfl))) (Or.inl (hw _ (List.mem_of_getElem? (i := 80) rfl))) (by decide) (t := .int) (by decide) (t' := .int) (by decide)))
    have Fa1_tableAt_24 := Fa1_tableAt_21.other W24 (Or.inr (slot_ne (Or.inl (hw _ (List.mem_of_getElem? (i := 32) rfl))) (Or.inl (hw _ (List.mem_of_getElem? (i := 80) rfl))) (by decide) (t := .int) (by decide) (t' := .int) (by decide)))
    have Fa1_tableLength_24 := Fa1_tableLength_21.other W24 (Or.inr (slot_ne (Or.inl (hw _ (List.mem_of_getElem? (i := 72) rfl))) (Or.inl (hw _ (List.mem_of_getElem? (i := 80) rfl))) (by decide) (t := .int) (by decide) (t' := .int) (by decide)))
    have Fa1_rowAt_24 := Fa1_rowAt_21.other W24 (Or.inr (slot_ne (Or.inl (hw _ (List.mem_of_getElem? (i := 76) rfl))) (Or.inl (hw _ (List.mem_of_getElem? (i := 80) rfl))) (by decide) (t := .int) (by decide) (t' := .int) (by decide)))
    have Fa1_rowLength_24 := Fa1_rowLength_21.other W24 (Or.inr (slot_ne (Or.inl (hw _ (List.mem_of_getElem? (i := 74) rfl))) (Or.inl (hw _ (List.mem_of_getElem? (i := 80) rfl))) (by decide) (t := .int) (by decide) (t' := .int) (by decide)))
    have Fa1_columnLength_24 := Fa1_columnLength_21.other W24 (Or.inr (slot_ne (Or.inl (hw _ (List.mem_of_getElem? (i := 78) rfl))) (Or.inl (hw _ (List.mem_of_getElem? (i := 80) rfl))) (by decide) (t := .int) (by decide) (t' := .int) (by decide)))
    have Fa1_deletion_24 := Fa1_deletion_21.other W24 (Or.inr (slot_ne (Or.inl (hw _ (List.mem_of_getElem? (i := 82) rfl))) (Or.inl (hw _ (List.mem_of_getElem? (i := 80) rfl))) (by decide) (t := .boolean) (by decide) (t' := .int) (by decide)))
    have Fa1_namesRow_24 := Fa1_namesRow_21.other W24 (Or.inr (slot_ne (Or.inl (hw _ (List.mem_of_getElem? (i := 39) rfl))) (Or.inl (hw _ (List.mem_of_getElem? (i := 80) rfl))) (by decide) (t := .boolean) (by decide) (t' := .int) (by decide)))
    have Fa1_columnAt_24 := Fa1_columnAt_21.same W24
    have hk24 := Nat.le_trans hk21 (Nat.le_of_eq W24.size.symm)
    have Vr1_24 := Vr1_21.other W24 ne0
    have Ea1_24 := Ea1_21.wr W24
    have N24 := Fr.snoc X24 N21 g_a1
    have Z24 : n0 ≤ h24.size := Nat.le_trans Z21 (Nat.le_of_eq W24.size.symm)
    have K24 := K21.wr W24 (Or.inl (List.mem_singleton.mpr rfl))
    refine Goes.via (B := T24.setTop (mkF m 162 #[.val (.ref a1), .val (.int (0 : Int32))] [])) st24 ?_
    refine Goes.via (B := T24.setTop (mkF m 163 #[.val (.ref a1), .val (.int (0 : Int32))] [(.ref a1)])) (fun t k => XS.aloadN X24.here hx rfl (hb hby d7_162) rfl rfl k) ?_
    refine Goes.via (B := T24.setTop (mkF m 164 #[.val (.ref a1), .val (.int (0 : Int32))] [(.int (0 : Int32)), (.ref a1)])) (fun t k => XS.iloadN X24.here hx rfl (hb hby d7_163) rfl k) ?_
    refine Goes.via (B := T24.setTop (mkF m 165 #[.val (.ref a1), .val (.int (0 : Int32))] [(.int (2 : Int32)), (.int (0 : Int32)), (.ref a1)])) (fun t k => XS.iconst X24.here hx rfl (hb hby d7_164) k) ?_
    refine Goes.via (B := T24.setTop (mkF m 166 #[.val (.ref a1), .val (.int (0 : Int32))] [(.int ((0 : Int32) % (2 : Int32))), (.ref a1)])) (fun t k => iremM X24 hx rfl (hb hby d7_165) rfl (by decide) k) ?_
    rw [show ((0 : Int32) % (2 : Int32)) = (0 : Int32) from by decide +kernel]
    refine Goes.via (B := T24.setTop (mkF m 169 #[.val (.ref a1), .val (.int (0 : Int32))] [(.ref a1)])) (fun t k => XS.ifNo X24.here hx rfl (hb hby d7_166) rfl ((if0 _ _).trans (teq (by decide : (0 : Int32) = (0 : Int32))).2) k) ?_
    refine Goes.via (B := T24.setTop (mkF m 170 #[.val (.ref a1), .val (.int (0 : Int32))] [(.int (1 : Int32)), (.ref a1)])) (fun t k => XS.iconst X24.here hx rfl (hb hby d7_169) k) ?_
    refine Goes.via (B := T24.setTop (mkF m 174 #[.val (.ref a1), .val (.int (0 : Int32))] [(.int (1 : Int32)), (.ref a1)])) (fun t k => XS.goto X24.here hx rfl (pc0 := 170) (pc' := 174) rfl (hb hby d7_170) (by decide) (by decide) k) ?_
    obtain ⟨T25, h25, X25, e25, W25, st25⟩ := putF X24 hx hZ hown (host := "") (Or.inl (hw _ (List.mem_of_getElem? (i := 81) rfl))) Via.refl e24 Fa1_deletion_24 Ea1_24 (Or.inl (hw _ (List.mem_of_getElem? (i := 82) rfl))) (hw _ (List.mem_of_getElem? (i := 12) rfl)) (ty := .boolean) (by decide) rfl rfl (g := (mkF m 174 #[.val (.ref a1), .val (.int (0 : Int32))] [(.int (1 : Int32)), (.ref a1)])) rfl rfl (hb hby d7_174)
    have Fa1_run_25 := Fa1_run_24.other W25 (Or.inr (slot_ne (Or.inl (hw _ (List.mem_of_getElem? (i := 26) rfl))) (Or.inl (hw _ (List.mem_of_getElem? (i := 82) rfl))) (by decide) (t := (.array .byte)) (by decide) (t' := .boolean) (by decide)))
    have Fa1_start_25 := Fa1_start_24.other W25 (Or.inr (slot_ne (Or.inl (hw _ (List.mem_of_getElem? (i := 28) rfl))) (Or.inl (hw _ (List.mem_of_getElem? (i := 82) rfl))) (by decide) (t := .long) (by decide) (t' := .boolean) (by decide)))
    have Fa1_next_25 := Fa1_next_24.other W25 (Or.inr (slot_ne (Or.inl (hw _ (List.mem_of_getElem? (i := 30) rfl))) (Or.inl (hw _ (List.mem_of_getElem? (i := 82) rfl))) (by decide) (t := .int) (by decide) (t' := .boolean) (by decide)))
    have Fa1_tableAt_25 := Fa1_tableAt_24.other W25 (Or.inr (slot_ne (Or.inl (hw _ (List.mem_of_getElem? (i := 32) rfl))) (Or.inl (hw _ (List.mem_of_getElem? (i := 82) rfl))) (by decide) (t := .int) (by decide) (t' := .boolean) (by decide)))
    have Fa1_tableLength_25 := Fa1_tableLength_24.other W25 (Or.inr (slot_ne (Or.inl (hw _ (List.mem_of_getElem? (i := 72) rfl))) (Or.inl (hw _ (List.mem_of_getElem? (i := 82) rfl))) (by decide) (t := .int) (by decide) (t' := .boolean) (by decide)))
    have Fa1_rowAt_25 := Fa1_rowAt_24.other W25 (Or.inr (slot_ne (Or.inl (hw _ (List.mem_of_getElem? (i := 76) rfl))) (Or.inl (hw _ (List.mem_of_getElem? (i := 82) rfl))) (by decide) (t := .int) (by decide) (t' := .boolean) (by decide)))
    have Fa1_rowLength_25 := Fa1_rowLength_24.other W25 (Or.inr (slot_ne (Or.inl (hw _ (List.mem_of_getElem? (i := 74) rfl))) (Or.inl (hw _ (List.mem_of_getElem? (i := 82) rfl))) (by decide) (t := .int) (by decide) (t' := .boolean) (by decide)))
    have Fa1_columnAt_25 := Fa1_columnAt_24.other W25 (Or.inr (slot_ne (Or.inl (hw _ (List.mem_of_getElem? (i := 80) rfl))) (Or.inl (hw _ (List.mem_of_getElem? (i := 82) rfl))) (by decide) (t := .int) (by decide) (t' := .boolean) (by decide)))
    have Fa1_columnLength_25 := Fa1_columnLength_24.other W25 (Or.inr (slot_ne (Or.inl (hw _ (List.mem_of_getElem? (i := 78) rfl))) (Or.inl (hw _ (List.mem_of_getElem? (i := 82) rfl))) (by decide) (t := .int) (by decide) (t' := .boolean) (by decide)))
    have Fa1_namesRow_25 := Fa1_namesRow_24.other W25 (Or.inr (slot_ne (Or.inl (hw _ (List.mem_of_getElem? (i := 39) rfl))) (Or.inl (hw _ (List.mem_of_getElem? (i := 82) rfl))) (by decide) (t := .boolean) (by decide) (t' := .boolean) (by decide)))
    have Fa1_deletion_25 := Fa1_deletion_24.same W25
    have hk25 := Nat.le_trans hk24 (Nat.le_of_eq W25.size.symm)
    have Vr1_25 := Vr1_24.other W25 ne0
    have Ea1_25 := Ea1_24.wr W25
    have N25 := Fr.snoc X25 N24 g_a1
    have Z25 : n0 ≤ h25.size := Nat.le_trans Z24 (Nat.le_of_eq W25.size.symm)
    have K25 := K24.wr W25 (Or.inl (List.mem_singleton.mpr rfl))
    refine Goes.via (B := T25.setTop (mkF m 177 #[.val (.ref a1), .val (.int (0 : Int32))] [])) st25 ?_
    refine Goes.via (B := T25.setTop (mkF m 178 #[.val (.ref a1), .val (.int (0 : Int32))] [(.int (1 : Int32))])) (fun t k => XS.iconst X25.here hx rfl (hb hby d7_177) k) ?_
    exact own_outW (s := s) X25 hS20 (by rw [e25]; exact hk25) (v := some (.int (1 : Int32))) (fun h => by rw [Bd.returns] at h; cases h) Bd.notSynchronized (fun fs hr => retOut X25 hx Bd.returns rfl (Or.inl ⟨rfl, Or.inr (Or.inl rfl), _, rfl⟩) (hb hby d7_178) hr) ⟨rfl, N25, (by rw [e25]; exact K25), (by rw [e25]; exact ⟨Ea1_25, Fa1_run_25, Fa1_start_25, Fa1_next_25, Fa1_tableAt_25, Fa1_tableLength_25, Fa1_rowAt_25, Fa1_rowLength_25, Fa1_columnAt_25, Fa1_columnLength_25, Fa1_deletion_25, Fa1_namesRow_25⟩)⟩ (by decide) (by decide)
  · refine Goes.via (B := s₁.setTop (mkF m 1 #[.val (.ref a1), .unset] [(.ref a1)])) (fun t k => XS.aloadN X0.here hx rfl (hb hby d7_0) rfl rfl k) ?_
    obtain ⟨T26, X26, e26, st26⟩ := getF X0 hx hZ hown (host := "") (Or.inl (hw _ (List.mem_of_getElem? (i := 29) rfl))) Via.refl e0 Fa1_next (g := (mkF m 1 #[.val (.ref a1), .unset] [(.ref a1)])) rfl rfl (hb hby d7_1)
    refine Goes.via (B := T26.setTop (mkF m 4 #[.val (.ref a1), .unset] [(.int (0 : Int32))])) st26 ?_
    refine Goes.via (B := T26.setTop (mkF m 5 #[.val (.ref a1), .unset] [(.ref a1), (.int (0 : Int32))])) (fun t k => XS.aloadN X26.here hx rfl (hb hby d7_4) rfl rfl k) ?_
    obtain ⟨T27, X27, e27, st27⟩ := getF X26 hx hZ hown (host := "") (Or.inl (hw _ (List.mem_of_getElem? (i := 25) rfl))) Via.refl e26 Fa1_run (g := (mkF m 5 #[.val (.ref a1), .unset] [(.ref a1), (.int (0 : Int32))])) rfl rfl (hb hby d7_5)
    refine Goes.via (B := T27.setTop (mkF m 8 #[.val (.ref a1), .unset] [(.ref r1), (.int (0 : Int32))])) st27 ?_
    have Vc28 := V0
    obtain ⟨cl28, Ar28, q28, S28, M28, H28, G28⟩ := Vc28
    have ln28 := len_of S28 M28
    refine Goes.via (B := T27.setTop (mkF m 9 #[.val (.ref a1), .unset] [(.int (7 : Int32)), (.int (0 : Int32))])) (fun t k => X27.arraylength hx (by rw [e27]; exact Ar28.1) (State.isArrayOf_alike hZ.alike Ar28.2.1) (g := (mkF m 8 #[.val (.ref a1), .unset] [(.ref r1), (.int (0 : Int32))])) rfl rfl (hb hby d7_8) _ (by rw [ln28]; exact k)) ?_
    refine Goes.via (B := T27.setTop (mkF m 29 #[.val (.ref a1), .unset] [])) (fun t k => XS.icmpYes X27.here hx rfl (pc0 := 9) (pc' := 29) rfl (hb hby d7_9) rfl (feq (by decide : ¬ (0 : Int32) = (7 : Int32))).2 (by decide) (by decide) k) ?_
    refine Goes.via (B := T27.setTop (mkF m 30 #[.val (.ref a1), .unset] [(.ref a1)])) (fun t k => XS.aloadN X27.here hx rfl (hb hby d7_29) rfl rfl k) ?_
    obtain ⟨T29, X29, e29, st29⟩ := getF X27 hx hZ hown (host := "") (Or.inl (hw _ (List.mem_of_getElem? (i := 25) rfl))) Via.refl e27 Fa1_run (g := (mkF m 30 #[.val (.ref a1), .unset] [(.ref a1)])) rfl rfl (hb hby d7_30)
    refine Goes.via (B := T29.setTop (mkF m 33 #[.val (.ref a1), .unset] [(.ref r1)])) st29 ?_
    refine Goes.via (B := T29.setTop (mkF m 34 #[.val (.ref a1), .unset] [(.ref a1), (.ref r1)])) (fun t k => XS.aloadN X29.here hx rfl (hb hby d7_33) rfl rfl k) ?_
    refine Goes.via (B := T29.setTop (mkF m 35 #[.val (.ref a1), .unset] [(.ref a1), (.ref a1), (.ref r1)])) (fun t k => XS.dup X29.here hx rfl (hb hby d7_34) rfl rfl k) ?_
    obtain ⟨T30, X30, e30, st30⟩ := getF X29 hx hZ hown (host := "") (Or.inl (hw _ (List.mem_of_getElem? (i := 29) rfl))) Via.refl e29 Fa1_next (g := (mkF m 35 #[.val (.ref a1), .unset] [(.ref a1), (.ref a1), (.ref r1)])) rfl rfl (hb hby d7_35)
    refine Goes.via (B := T30.setTop (mkF m 38 #[.val (.ref a1), .unset] [(.int (0 : Int32)), (.ref a1), (.ref r1)])) st30 ?_
    refine Goes.via (B := T30.setTop (mkF m 39 #[.val (.ref a1), .unset] [(.int (0 : Int32)), (.ref a1), (.int (0 : Int32)), (.ref r1)])) (fun t k => XS.dupX1 X30.here hx rfl (hb hby d7_38) rfl rfl rfl k) ?_
    refine Goes.via (B := T30.setTop (mkF m 40 #[.val (.ref a1), .unset] [(.int (1 : Int32)), (.int (0 : Int32)), (.ref a1), (.int (0 : Int32)), (.ref r1)])) (fun t k => XS.iconst X30.here hx rfl (hb hby d7_39) k) ?_
    refine Goes.via (B := T30.setTop (mkF m 41 #[.val (.ref a1), .unset] [(.int (1 : Int32)), (.ref a1), (.int (0 : Int32)), (.ref r1)])) (fun t k => XS.iadd X30.here hx rfl (hb hby d7_40) rfl k) ?_
    obtain ⟨T31, h31, X31, e31, W31, st31⟩ := putF X30 hx hZ hown (host := "") (Or.inl (hw _ (List.mem_of_getElem? (i := 29) rfl))) Via.refl e30 Fa1_next Aa1 (Or.inl (hw _ (List.mem_of_getElem? (i := 30) rfl))) (hw _ (List.mem_of_getElem? (i := 12) rfl)) (ty := .int) (by decide) rfl rfl (g := (mkF m 41 #[.val (.ref a1), .unset] [(.int (1 : Int32)), (.ref a1), (.int (0 : Int32)), (.ref r1)])) rfl rfl (hb hby d7_41)
    have Fa1_run_31 := Fa1_run.other W31 (Or.inr (slot_ne (Or.inl (hw _ (List.mem_of_getElem? (i := 26) rfl))) (Or.inl (hw _ (List.mem_of_getElem? (i := 30) rfl))) (by decide) (t := (.array .byte)) (by decide) (t' := .int) (by decide)))
    have Fa1_start_31 := Fa1_start.other W31 (Or.inr (slot_ne (Or.inl (hw _ (List.mem_of_getElem? (i := 28) rfl))) (Or.inl (hw _ (List.mem_of_getElem? (i := 30) rfl))) (by decide) (t := .long) (by decide) (t' := .int) (by decide)))
    have Fa1_tableAt_31 := Fa1_tableAt.other W31 (Or.inr (slot_ne (Or.inl (hw _ (List.mem_of_getElem? (i := 32) rfl))) (Or.inl (hw _ (List.mem_of_getElem? (i := 30) rfl))) (by decide) (t := .int) (by decide) (t' := .int) (by decide)))
    have Fa1_tableLength_31 := Fa1_tableLength.other W31 (Or.inr (slot_ne (Or.inl (hw _ (List.mem_of_getElem? (i := 72) rfl))) (Or.inl (hw _ (List.mem_of_getElem? (i := 30) rfl))) (by decide) (t := .int) (by decide) (t' := .int) (by decide)))
    have Fa1_rowAt_31 := Fa1_rowAt.other W31 (Or.inr (slot_ne (Or.inl (hw _ (List.mem_of_getElem? (i := 76) rfl))) (Or.inl (hw _ (List.mem_of_getElem? (i := 30) rfl))) (by decide) (t := .int) (by decide) (t' := .int) (by decide)))
    have Fa1_rowLength_31 := Fa1_rowLength.other W31 (Or.inr (slot_ne (Or.inl (hw _ (List.mem_of_getElem? (i := 74) rfl))) (Or.inl (hw _ (List.mem_of_getElem? (i := 30) rfl))) (by decide) (t := .int) (by decide) (t' := .int) (by decide)))
    have Fa1_columnAt_31 := Fa1_columnAt.other W31 (Or.inr (slot_ne (Or.inl (hw _ (List.mem_of_getElem? (i := 80) rfl))) (Or.inl (hw _ (List.mem_of_getElem? (i := 30) rfl))) (by decide) (t := .int) (by decide) (t' := .int) (by decide)))
    have Fa1_columnLength_31 := Fa1_columnLength.other W31 (Or.inr (slot_ne (Or.inl (hw _ (List.mem_of_getElem? (i := 78) rfl))) (Or.inl (hw _ (List.mem_of_getElem? (i := 30) rfl))) (by decide) (t := .int) (by decide) (t' := .int) (by decide)))
    have Fa1_deletion_31 := Fa1_deletion.other W31 (Or.inr (slot_ne (Or.inl (hw _ (List.mem_of_getElem? (i := 82) rfl))) (Or.inl (hw _ (List.mem_of_getElem? (i := 30) rfl))) (by decide) (t := .boolean) (by decide) (t' := .int) (by decide)))
    have Fa1_namesRow_31 := Fa1_namesRow.other W31 (Or.inr (slot_ne (Or.inl (hw _ (List.mem_of_getElem? (i := 39) rfl))) (Or.inl (hw _ (List.mem_of_getElem? (i := 30) rfl))) (by decide) (t := .boolean) (by decide) (t' := .int) (by decide)))
    have Fa1_next_31 := Fa1_next.same W31
    have hk31 := Nat.le_trans hk0 (Nat.le_of_eq W31.size.symm)
    have Vr1_31 := V0.other W31 ne0
    have Ea1_31 := Aa1.wr W31
    have N31 := Fr.snoc X31 N0 g_a1
    have Z31 : n0 ≤ h31.size := Nat.le_trans Z0 (Nat.le_of_eq W31.size.symm)
    have K31 := K0.wr W31 (Or.inl (List.mem_singleton.mpr rfl))
    refine Goes.via (B := T31.setTop (mkF m 44 #[.val (.ref a1), .unset] [(.int (0 : Int32)), (.ref r1)])) st31 ?_
    have Vc32 := Vr1_31
    obtain ⟨cl32, Ar32, q32, S32, M32, H32, G32⟩ := Vc32
    have hin32 : ¬ ((0 : Int32) < 0 ∨ cl32.slots.size ≤ ((0 : Int32)).toNatClampNeg) := inb_of S32 ⟨by decide, by decide⟩
    have hat32 : cl32.slots[((0 : Int32)).toNatClampNeg]? = some (.int (1 : Int32)) := H32.at hin32 hv0
    refine Goes.via (B := T31.setTop (mkF m 45 #[.val (.ref a1), .unset] [(.int (1 : Int32))])) (fun t k => X31.baloadBytes hx (j := (0 : Int32)) (v := (.int (1 : Int32))) (by rw [e31]; exact Ar32.1) (State.isArrayOf_alike hZ.alike Ar32.2.1) Ar32.2.2 hin32 hat32 (g := (mkF m 44 #[.val (.ref a1), .unset] [(.int (0 : Int32)), (.ref r1)])) rfl rfl (hb hby d7_44) _ k) ?_
    refine Goes.via (B := T31.setTop (mkF m 46 #[.val (.ref a1), .val (.int (1 : Int32))] [])) (fun t k => XS.istoreN X31.here hx rfl (hb hby d7_45) rfl (l' := #[.val (.ref a1), .val (.int (1 : Int32))]) rfl k) ?_
    refine Goes.via (B := T31.setTop (mkF m 47 #[.val (.ref a1), .val (.int (1 : Int32))] [(.ref a1)])) (fun t k => XS.aloadN X31.here hx rfl (hb hby d7_46) rfl rfl k) ?_
    refine Goes.via (B := T31.setTop (mkF m 48 #[.val (.ref a1), .val (.int (1 : Int32))] [(.int (1 : Int32)), (.ref a1)])) (fun t k => XS.iloadN X31.here hx rfl (hb hby d7_47) rfl k) ?_
    refine Goes.via (B := T31.setTop (mkF m 51 #[.val (.ref a1), .val (.int (1 : Int32))] [(.ref a1)])) (fun t k => XS.ifNo X31.here hx rfl (hb hby d7_48) rfl ((if0 _ _).trans (feq (by decide : ¬ (1 : Int32) = (0 : Int32))).1) k) ?_
    refine Goes.via (B := T31.setTop (mkF m 52 #[.val (.ref a1), .val (.int (1 : Int32))] [(.int (1 : Int32)), (.ref a1)])) (fun t k => XS.iloadN X31.here hx rfl (hb hby d7_51) rfl k) ?_
    refine Goes.via (B := T31.setTop (mkF m 53 #[.val (.ref a1), .val (.int (1 : Int32))] [(.int (1 : Int32)), (.int (1 : Int32)), (.ref a1)])) (fun t k => XS.iconst X31.here hx rfl (hb hby d7_52) k) ?_
    refine Goes.via (B := T31.setTop (mkF m 56 #[.val (.ref a1), .val (.int (1 : Int32))] [(.ref a1)])) (fun t k => XS.icmpNo X31.here hx rfl (hb hby d7_53) rfl (teq (by decide : (1 : Int32) = (1 : Int32))).2 k) ?_
    refine Goes.via (B := T31.setTop (mkF m 57 #[.val (.ref a1), .val (.int (1 : Int32))] [(.int (1 : Int32)), (.ref a1)])) (fun t k => XS.iconst X31.here hx rfl (hb hby d7_56) k) ?_
    refine Goes.via (B := T31.setTop (mkF m 61 #[.val (.ref a1), .val (.int (1 : Int32))] [(.int (1 : Int32)), (.ref a1)])) (fun t k => XS.goto X31.here hx rfl (pc0 := 57) (pc' := 61) rfl (hb hby d7_57) (by decide) (by decide) k) ?_
    obtain ⟨T33, h33, X33, e33, W33, st33⟩ := putF X31 hx hZ hown (host := "") (Or.inl (hw _ (List.mem_of_getElem? (i := 38) rfl))) Via.refl e31 Fa1_namesRow_31 Ea1_31 (Or.inl (hw _ (List.mem_of_getElem? (i := 39) rfl))) (hw _ (List.mem_of_getElem? (i := 12) rfl)) (ty := .boolean) (by decide) rfl rfl (g := (mkF m 61 #[.val (.ref a1), .val (.int (1 : Int32))] [(.int (1 : Int32)), (.ref a1)])) rfl rfl (hb hby d7_61)
    have Fa1_run_33 := Fa1_run_31.other W33 (Or.inr (slot_ne (Or.inl (hw _ (List.mem_of_getElem? (i := 26) rfl))) (Or.inl (hw _ (List.mem_of_getElem? (i := 39) rfl))) (by decide) (t := (.array .byte)) (by decide) (t' := .boolean) (by decide)))
    have Fa1_start_33 := Fa1_start_31.other W33 (Or.inr (slot_ne (Or.inl (hw _ (List.mem_of_getElem? (i := 28) rfl))) (Or.inl (hw _ (List.mem_of_getElem? (i := 39) rfl))) (by decide) (t := .long) (by decide) (t' := .boolean) (by decide)))
    have Fa1_next_33 := Fa1_next_31.other W33 (Or.inr (slot_ne (Or.inl (hw _ (List.mem_of_getElem? (i := 30) rfl))) (Or.inl (hw _ (List.mem_of_getElem? (i := 39) rfl))) (by decide) (t := .int) (by decide) (t' := .boolean) (by decide)))
    have Fa1_tableAt_33 := Fa1_tableAt_31.other W33 (Or.inr (slot_ne (Or.inl (hw _ (List.mem_of_getElem? (i := 32) rfl))) (Or.inl (hw _ (List.mem_of_getElem? (i := 39) rfl))) (by decide) (t := .int) (by decide) (t' := .boolean) (by decide)))
    have Fa1_tableLength_33 := Fa1_tableLength_31.other W33 (Or.inr (slot_ne (Or.inl (hw _ (List.mem_of_getElem? (i := 72) rfl))) (Or.inl (hw _ (List.mem_of_getElem? (i := 39) rfl))) (by decide) (t := .int) (by decide) (t' := .boolean) (by decide)))
    have Fa1_rowAt_33 := Fa1_rowAt_31.other W33 (Or.inr (slot_ne (Or.inl (hw _ (List.mem_of_getElem? (i := 76) rfl))) (Or.inl (hw _ (List.mem_of_getElem? (i := 39) rfl))) (by decide) (t := .int) (by decide) (t' := .boolean) (by decide)))
    have Fa1_rowLength_33 := Fa1_rowLength_31.other W33 (Or.inr (slot_ne (Or.inl (hw _ (List.mem_of_getElem? (i := 74) rfl))) (Or.inl (hw _ (List.mem_of_getElem? (i := 39) rfl))) (by decide) (t := .int) (by decide) (t' := .boolean) (by decide)))
    have Fa1_columnAt_33 := Fa1_columnAt_31.other W33 (Or.inr (slot_ne (Or.inl (hw _ (List.mem_of_getElem? (i := 80) rfl))) (Or.inl (hw _ (List.mem_of_getElem? (i := 39) rfl))) (by decide) (t := .int) (by decide) (t' := .boolean) (by decide)))
    have Fa1_columnLength_33 := Fa1_columnLength_31.other W33 (Or.inr (slot_ne (Or.inl (hw _ (List.mem_of_getElem? (i := 78) rfl))) (Or.inl (hw _ (List.mem_of_getElem? (i := 39) rfl))) (by decide) (t := .int) (by decide) (t' := .boolean) (by decide)))
    have Fa1_deletion_33 := Fa1_deletion_31.other W33 (Or.inr (slot_ne (Or.inl (hw _ (List.mem_of_getElem? (i := 82) rfl))) (Or.inl (hw _ (List.mem_of_getElem? (i := 39) rfl))) (by decide) (t := .boolean) (by decide) (t' := .boolean) (by decide)))
    have Fa1_namesRow_33 := Fa1_namesRow_31.same W33
    have hk33 := Nat.le_trans hk31 (Nat.le_of_eq W33.size.symm)
    have Vr1_33 := Vr1_31.other W33 ne0
    have Ea1_33 := Ea1_31.wr W33
    have N33 := Fr.snoc X33 N31 g_a1
    have Z33 : n0 ≤ h33.size := Nat.le_trans Z31 (Nat.le_of_eq W33.size.symm)
    have K33 := K31.wr W33 (Or.inl (List.mem_singleton.mpr rfl))
    refine Goes.via (B := T33.setTop (mkF m 64 #[.val (.ref a1), .val (.int (1 : Int32))] [])) st33 ?_
    refine Goes.via (B := T33.setTop (mkF m 65 #[.val (.ref a1), .val (.int (1 : Int32))] [(.ref a1)])) (fun t k => XS.aloadN X33.here hx rfl (hb hby d7_64) rfl rfl k) ?_
    obtain ⟨T34, X34, e34, st34⟩ := getF X33 hx hZ hown (host := "") (Or.inl (hw _ (List.mem_of_getElem? (i := 38) rfl))) Via.refl e33 Fa1_namesRow_33 (g := (mkF m 65 #[.val (.ref a1), .val (.int (1 : Int32))] [(.ref a1)])) rfl rfl (hb hby d7_65)
    refine Goes.via (B := T34.setTop (mkF m 68 #[.val (.ref a1), .val (.int (1 : Int32))] [(.int (1 : Int32))])) st34 ?_
    refine Goes.via (B := T34.setTop (mkF m 71 #[.val (.ref a1), .val (.int (1 : Int32))] [])) (fun t k => XS.ifNo X34.here hx rfl (hb hby d7_68) rfl ((if0 _ _).trans (feq (by decide : ¬ (1 : Int32) = (0 : Int32))).1) k) ?_
    refine Goes.via (B := T34.setTop (mkF m 72 #[.val (.ref a1), .val (.int (1 : Int32))] [(.ref a1)])) (fun t k => XS.aloadN X34.here hx rfl (hb hby d7_71) rfl rfl k) ?_
    refine Goes.via (B := T34.setTop (mkF m 73 #[.val (.ref a1), .val (.int (1 : Int32))] [(.ref a1), (.ref a1)])) (fun t k => XS.aloadN X34.here hx rfl (hb hby d7_72) rfl rfl k) ?_
    obtain ⟨cq35, q35, q35'⟩ := Ea1_33.cell
    obtain ⟨_, _, ⟨T35, L35, kk35, nn35⟩, -, X35, hB35, gr35, ⟨Lc35, hQ35, l35, y35, z35⟩, st35⟩ := X34.privateBackS hx (y := (⟨"com/example/highwater/highwater/sweep/QueueLayout$RunReader", "part", "()I"⟩ : MethodName)) hown (mvT hZ (hw _ (List.mem_of_getElem? (i := 40) rfl))) (mvT hZ (hw _ (List.mem_of_getElem? (i := 41) rfl))) (own_selects (mvT hZ (hw _ (List.mem_of_getElem? (i := 41) rfl))) (mvP hZ (hw _ (List.mem_of_getElem? (i := 42) rfl)) (args := #[])) (mvT hZ (hw _ (List.mem_of_getElem? (i := 12) rfl))) (by decide)) (Cond.privateMethod_at (mvP hZ (hw _ (List.mem_of_getElem? (i := 42) rfl)) (args := #[]))) (mvT hZ (hw _ (List.mem_of_getElem? (i := 43) rfl))) (by decide) (backOfS (W := 1) (rm6 l Z a0 hw [] a1 r1 k1 vs st (1 : Int32) ta tl ra rl ca cl dl (1 : Int32) A h33 n0 Z33 ⟨Ea1_33, Fa1_run_33, Fa1_start_33, Fa1_next_33, Fa1_tableAt_33, Fa1_tableLength_33, Fa1_rowAt_33, Fa1_rowLength_33, Fa1_columnAt_33, Fa1_columnLength_33, Fa1_deletion_33, Fa1_namesRow_33⟩ Vr1_33 ne0 g_a1 i1 hv1 (by omega) (by omega)) hZ (hw _ (List.mem_of_getElem? (i := 43) rfl)) (hw _ (List.mem_of_getElem? (i := 13) rfl)) (by decide) (by decide)) (g := (mkF m 73 #[.val (.ref a1), .val (.int (1 : Int32))] [(.ref a1), (.ref a1)])) rfl (by rw [hml]; rfl) (Steps.refl _) (a := a1) (by rw [e34]; exact q35) q35' (argsL := []) (rest := [(.ref a1)]) (lenOf pd___I rfl) rfl (by show 2 * 0 + _ ≤ _; exact Nat.le_of_eq rfl) (hb hby d7_73) (fun _ _ => ⟨rfl, e34, (by decide : 0 + 2 ≤ _), (by decide : 0 + 148 ≤ _)⟩)
    dsimp only [Pt.U, Pt.locs, Pt.cells, Pt.slots] at X35 l35 y35 z35 st35 hQ35 hB35 gr35
    subst l35 y35 z35
    obtain ⟨X35, hS35, hZ, hown⟩ := rebS (s := s) hS0 (show _ ≤ T34.heap.size by rw [e34]; exact hk33) X35 hB35 gr35 hZ hown
    obtain ⟨rfl, Nq35, Kq35, Rq35⟩ := hQ35
    have N35 := Fr.app N33 Nq35
    have Vr1_35 := Vr1_33.keep Kq35 (ninS ne0 nin0)
    have Ea1_35 := Ea1_33.keep Kq35
    obtain ⟨Aa135, Fa1_run35, Fa1_start35, Fa1_next35, Fa1_tableAt35, Fa1_tableLength35, Fa1_rowAt35, Fa1_rowLength35, Fa1_columnAt35, Fa1_columnLength35, Fa1_deletion35, Fa1_namesRow35⟩ := Rq35
    have Z35 : n0 ≤ T35.heap.size := Nat.le_trans Z33 Kq35.1
    have K35 : Keep h0 T35.heap [a1] := K33.trans Kq35 (fun x hx => Or.inl hx)
    have eq35 : T35.heap = T35.heap := rfl
    have hk35 : T35.heap.size ≤ T35.heap.size := Nat.le_refl _
    refine Goes.via (B := T35.setTop (mkF m 76 #[.val (.ref a1), .val (.int (1 : Int32))] [(.int A), (.ref a1)])) (fun t k => st35.trans k) ?_
    obtain ⟨T36, h36, X36, e36, W36, st36⟩ := putF X35 hx hZ hown (host := "") (Or.inl (hw _ (List.mem_of_getElem? (i := 71) rfl))) Via.refl eq35 Fa1_tableLength35 Aa135 (Or.inl (hw _ (List.mem_of_getElem? (i := 72) rfl))) (hw _ (List.mem_of_getElem? (i := 12) rfl)) (ty := .int) (by decide) rfl rfl (g := (mkF m 76 #[.val (.ref a1), .val (.int (1 : Int32))] [(.int A), (.ref a1)])) rfl rfl (hb hby d7_76)
    have Fa1_run_36 := Fa1_run35.other W36 (Or.inr (slot_ne (Or.inl (hw _ (List.mem_of_getElem? (i := 26) rfl))) (Or.inl (hw _ (List.mem_of_getElem? (i := 72) rfl))) (by decide) (t := (.array .byte)) (by decide) (t' := .int) (by decide)))
    have Fa1_start_36 := Fa1_start35.other W36 (Or.inr (slot_ne (Or.inl (hw _ (List.mem_of_getElem? (i := 28) rfl))) (Or.inl (hw _ (List.mem_of_getElem? (i := 72) rfl))) (by decide) (t := .long) (by decide) (t' := .int) (by decide)))
    have Fa1_next_36 := Fa1_next35.other W36 (Or.inr (slot_ne (Or.inl (hw _ (List.mem_of_getElem? (i := 30) rfl))) (Or.inl (hw _ (List.mem_of_getElem? (i := 72) rfl))) (by decide) (t := .int) (by decide) (t' := .int) (by decide)))
    have Fa1_tableAt_36 := Fa1_tableAt35.other W36 (Or.inr (slot_ne (Or.inl (hw _ (List.mem_of_getElem? (i := 32) rfl))) (Or.inl (hw _ (List.mem_of_getElem? (i := 72) rfl))) (by decide) (t := .int) (by decide) (t' := .int) (by decide)))
    have Fa1_rowAt_36 := Fa1_rowAt35.other W36 (Or.inr (slot_ne (Or.inl (hw _ (List.mem_of_getElem? (i := 76) rfl))) (Or.inl (hw _ (List.mem_of_getElem? (i := 72) rfl))) (by decide) (t := .int) (by decide) (t' := .int) (by decide)))
    have Fa1_rowLength_36 := Fa1_rowLength35.other W36 (Or.inr (slot_ne (Or.inl (hw _ (List.mem_of_getElem? (i := 74) rfl))) (Or.inl (hw _ (List.mem_of_getElem? (i := 72) rfl))) (by decide) (t := .int) (by decide) (t' := .int) (by decide)))
    have Fa1_columnAt_36 := Fa1_columnAt35.other W36 (Or.inr (slot_ne (Or.inl (hw _ (List.mem_of_getElem? (i := 80) rfl))) (Or.inl (hw _ (List.mem_of_getElem? (i := 72) rfl))) (by decide) (t := .int) (by decide) (t' := .int) (by decide)))
    have Fa1_columnLength_36 := Fa1_columnLength35.other W36 (Or.inr (slot_ne (Or.inl (hw _ (List.mem_of_getElem? (i := 78) rfl))) (Or.inl (hw _ (List.mem_of_getElem? (i := 72) rfl))) (by decide) (t := .int) (by decide) (t' := .int) (by decide)))
    have Fa1_deletion_36 := Fa1_deletion35.other W36 (Or.inr (slot_ne (Or.inl (hw _ (List.mem_of_getElem? (i := 82) rfl))) (Or.inl (hw _ (List.mem_of_getElem? (i := 72) rfl))) (by decide) (t := .boolean) (by decide) (t' := .int) (by decide)))
    have Fa1_namesRow_36 := Fa1_namesRow35.other W36 (Or.inr (slot_ne (Or.inl (hw _ (List.mem_of_getElem? (i := 39) rfl))) (Or.inl (hw _ (List.mem_of_getElem? (i := 72) rfl))) (by decide) (t := .boolean) (by decide) (t' := .int) (by decide)))
    have Fa1_tableLength_36 := Fa1_tableLength35.same W36
    have hk36 := Nat.le_trans hk35 (Nat.le_of_eq W36.size.symm)
    have Vr1_36 := Vr1_35.other W36 ne0
    have Ea1_36 := Aa135.wr W36
    have N36 := Fr.snoc X36 N35 g_a1
    have Z36 : n0 ≤ h36.size := Nat.le_trans Z35 (Nat.le_of_eq W36.size.symm)
    have K36 := K35.wr W36 (Or.inl (List.mem_singleton.mpr rfl))
    refine Goes.via (B := T36.setTop (mkF m 79 #[.val (.ref a1), .val (.int (1 : Int32))] [])) st36 ?_
    refine Goes.via (B := T36.setTop (mkF m 80 #[.val (.ref a1), .val (.int (1 : Int32))] [(.ref a1)])) (fun t k => XS.aloadN X36.here hx rfl (hb hby d7_79) rfl rfl k) ?_
    refine Goes.via (B := T36.setTop (mkF m 81 #[.val (.ref a1), .val (.int (1 : Int32))] [(.ref a1), (.ref a1)])) (fun t k => XS.aloadN X36.here hx rfl (hb hby d7_80) rfl rfl k) ?_
    obtain ⟨T37, X37, e37, st37⟩ := getF X36 hx hZ hown (host := "") (Or.inl (hw _ (List.mem_of_getElem? (i := 29) rfl))) Via.refl e36 Fa1_next_36 (g := (mkF m 81 #[.val (.ref a1), .val (.int (1 : Int32))] [(.ref a1), (.ref a1)])) rfl rfl (hb hby d7_81)
    refine Goes.via (B := T37.setTop (mkF m 84 #[.val (.ref a1), .val (.int (1 : Int32))] [(.int (own_nx (1 : Int32) A)), (.ref a1)])) st37 ?_
    refine Goes.via (B := T37.setTop (mkF m 85 #[.val (.ref a1), .val (.int (1 : Int32))] [(.ref a1), (.int (own_nx (1 : Int32) A)), (.ref a1)])) (fun t k => XS.aloadN X37.here hx rfl (hb hby d7_84) rfl rfl k) ?_
    obtain ⟨T38, X38, e38, st38⟩ := getF X37 hx hZ hown (host := "") (Or.inl (hw _ (List.mem_of_getElem? (i := 71) rfl))) Via.refl e37 Fa1_tableLength_36 (g := (mkF m 85 #[.val (.ref a1), .val (.int (1 : Int32))] [(.ref a1), (.int (own_nx (1 : Int32) A)), (.ref a1)])) rfl rfl (hb hby d7_85)
    refine Goes.via (B := T38.setTop (mkF m 88 #[.val (.ref a1), .val (.int (1 : Int32))] [(.int A), (.int (own_nx (1 : Int32) A)), (.ref a1)])) st38 ?_
    refine Goes.via (B := T38.setTop (mkF m 89 #[.val (.ref a1), .val (.int (1 : Int32))] [(.int ((own_nx (1 : Int32) A) - A)), (.ref a1)])) (fun t k => XS.isub X38.here hx rfl (hb hby d7_88) rfl k) ?_
    obtain ⟨T39, h39, X39, e39, W39, st39⟩ := putF X38 hx hZ hown (host := "") (Or.inl (hw _ (List.mem_of_getElem? (i := 31) rfl))) Via.refl e38 Fa1_tableAt_36 Ea1_36 (Or.inl (hw _ (List.mem_of_getElem? (i := 32) rfl))) (hw _ (List.mem_of_getElem? (i := 12) rfl)) (ty := .int) (by decide) rfl rfl (g := (mkF m 89 #[.val (.ref a1), .val (.int (1 : Int32))] [(.int ((own_nx (1 : Int32) A) - A)), (.ref a1)])) rfl rfl (hb hby d7_89)
    have Fa1_run_39 := Fa1_run_36.other W39 (Or.inr (slot_ne (Or.inl (hw _ (List.mem_of_getElem? (i := 26) rfl))) (Or.inl (hw _ (List.mem_of_getElem? (i := 32) rfl))) (by decide) (t := (.array .byte)) (by decide) (t' := .int) (by decide)))
    have Fa1_start_39 := Fa1_start_36.other W39 (Or.inr (slot_ne (Or.inl (hw _ (List.mem_of_getElem? (i := 28) rfl))) (Or.inl (hw _ (List.mem_of_getElem? (i := 32) rfl))) (by decide) (t := .long) (by decide) (t' := .int) (by decide)))
    have Fa1_next_39 := Fa1_next_36.other W39 (Or.inr (slot_ne (Or.inl (hw _ (List.mem_of_getElem? (i := 30) rfl))) (Or.inl (hw _ (List.mem_of_getElem? (i := 32) rfl))) (by decide) (t := .int) (by decide) (t' := .int) (by decide)))
    have Fa1_tableLength_39 := Fa1_tableLength_36.other W39 (Or.inr (slot_ne (Or.inl (hw _ (List.mem_of_getElem? (i := 72) rfl))) (Or.inl (hw _ (List.mem_of_getElem? (i := 32) rfl))) (by decide) (t := .int) (by decide) (t' := .int) (by decide)))
    have Fa1_rowAt_39 := Fa1_rowAt_36.other W39 (Or.inr (slot_ne (Or.inl (hw _ (List.mem_of_getElem? (i := 76) rfl))) (Or.inl (hw _ (List.mem_of_getElem? (i := 32) rfl))) (by decide) (t := .int) (by decide) (t' := .int) (by decide)))
    have Fa1_rowLength_39 := Fa1_rowLength_36.other W39 (Or.inr (slot_ne (Or.inl (hw _ (List.mem_of_getElem? (i := 74) rfl))) (Or.inl (hw _ (List.mem_of_getElem? (i := 32) rfl))) (by decide) (t := .int) (by decide) (t' := .int) (by decide)))
    have Fa1_columnAt_39 := Fa1_columnAt_36.other W39 (Or.inr (slot_ne (Or.inl (hw _ (List.mem_of_getElem? (i := 80) rfl))) (Or.inl (hw _ (List.mem_of_getElem? (i := 32) rfl))) (by decide) (t := .int) (by decide) (t' := .int) (by decide)))
    have Fa1_columnLength_39 := Fa1_columnLength_36.other W39 (Or.inr (slot_ne (Or.inl (hw _ (List.mem_of_getElem? (i := 78) rfl))) (Or.inl (hw _ (List.mem_of_getElem? (i := 32) rfl))) (by decide) (t := .int) (by decide) (t' := .int) (by decide)))
    have Fa1_deletion_39 := Fa1_deletion_36.other W39 (Or.inr (slot_ne (Or.inl (hw _ (List.mem_of_getElem? (i := 82) rfl))) (Or.inl (hw _ (List.mem_of_getElem? (i := 32) rfl))) (by decide) (t := .boolean) (by decide) (t' := .int) (by decide)))
    have Fa1_namesRow_39 := Fa1_namesRow_36.other W39 (Or.inr (slot_ne (Or.inl (hw _ (List.mem_of_getElem? (i := 39) rfl))) (Or.inl (hw _ (List.mem_of_getElem? (i := 32) rfl))) (by decide) (t := .boolean) (by decide) (t' := .int) (by decide)))
    have Fa1_tableAt_39 := Fa1_tableAt_36.same W39
    have hk39 := Nat.le_trans hk36 (Nat.le_of_eq W39.size.symm)
    have Vr1_39 := Vr1_36.other W39 ne0
    have Ea1_39 := Ea1_36.wr W39
    have N39 := Fr.snoc X39 N36 g_a1
    have Z39 : n0 ≤ h39.size := Nat.le_trans Z36 (Nat.le_of_eq W39.size.symm)
    have K39 := K36.wr W39 (Or.inl (List.mem_singleton.mpr rfl))
    refine Goes.via (B := T39.setTop (mkF m 92 #[.val (.ref a1), .val (.int (1 : Int32))] [])) st39 ?_
    refine Goes.via (B := T39.setTop (mkF m 93 #[.val (.ref a1), .val (.int (1 : Int32))] [(.ref a1)])) (fun t k => XS.aloadN X39.here hx rfl (hb hby d7_92) rfl rfl k) ?_
    refine Goes.via (B := T39.setTop (mkF m 94 #[.val (.ref a1), .val (.int (1 : Int32))] [(.ref a1), (.ref a1)])) (fun t k => XS.aloadN X39.here hx rfl (hb hby d7_93) rfl rfl k) ?_
    obtain ⟨cq40, q40, q40'⟩ := Ea1_39.cell
    obtain ⟨_, _, ⟨T40, L40, kk40, nn40⟩, -, X40, hB40, gr40, ⟨Lc40, hQ40, l40, y40, z40⟩, st40⟩ := X39.privateBackS hx (y := (⟨"com/example/highwater/highwater/sweep/QueueLayout$RunReader", "part", "()I"⟩ : MethodName)) hown (mvT hZ (hw _ (List.mem_of_getElem? (i := 40) rfl))) (mvT hZ (hw _ (List.mem_of_getElem? (i := 41) rfl))) (own_selects (mvT hZ (hw _ (List.mem_of_getElem? (i := 41) rfl))) (mvP hZ (hw _ (List.mem_of_getElem? (i := 42) rfl)) (args := #[])) (mvT hZ (hw _ (List.mem_of_getElem? (i := 12) rfl))) (by decide)) (Cond.privateMethod_at (mvP hZ (hw _ (List.mem_of_getElem? (i := 42) rfl)) (args := #[]))) (mvT hZ (hw _ (List.mem_of_getElem? (i := 43) rfl))) (by decide) (backOfS (W := 1) (rm6 l Z a0 hw [] a1 r1 k1 vs st (own_nx (1 : Int32) A) ((own_nx (1 : Int32) A) - A) A ra rl ca cl dl (1 : Int32) B h39 n0 Z39 ⟨Ea1_39, Fa1_run_39, Fa1_start_39, Fa1_next_39, Fa1_tableAt_39, Fa1_tableLength_39, Fa1_rowAt_39, Fa1_rowLength_39, Fa1_columnAt_39, Fa1_columnLength_39, Fa1_deletion_39, Fa1_namesRow_39⟩ Vr1_39 ne0 g_a1 i2 hv2 (by omega) (by omega)) hZ (hw _ (List.mem_of_getElem? (i := 43) rfl)) (hw _ (List.mem_of_getElem? (i := 13) rfl)) (by decide) (by decide)) (g := (mkF m 94 #[.val (.ref a1), .val (.int (1 : Int32))] [(.ref a1), (.ref a1)])) rfl (by rw [hml]; rfl) (Steps.refl _) (a := a1) (by rw [e39]; exact q40) q40' (argsL := []) (rest := [(.ref a1)]) (lenOf pd___I rfl) rfl (by show 2 * 0 + _ ≤ _; exact Nat.le_of_eq rfl) (hb hby d7_94) (fun _ _ => ⟨rfl, e39, (by decide : 2 + 2 ≤ _), (by decide : 148 + 148 ≤ _)⟩)
    dsimp only [Pt.U, Pt.locs, Pt.cells, Pt.slots] at X40 l40 y40 z40 st40 hQ40 hB40 gr40
    subst l40 y40 z40
    obtain ⟨X40, hS40, hZ, hown⟩ := rebS (s := s) hS35 (show _ ≤ T39.heap.size by rw [e39]; exact hk39) X40 hB40 gr40 hZ hown
    obtain ⟨rfl, Nq40, Kq40, Rq40⟩ := hQ40
    have N40 := Fr.app N39 Nq40
    have Vr1_40 := Vr1_39.keep Kq40 (ninS ne0 nin0)
    have Ea1_40 := Ea1_39.keep Kq40
    obtain ⟨Aa140, Fa1_run40, Fa1_start40, Fa1_next40, Fa1_tableAt40, Fa1_tableLength40, Fa1_rowAt40, Fa1_rowLength40, Fa1_columnAt40, Fa1_columnLength40, Fa1_deletion40, Fa1_namesRow40⟩ := Rq40
    have Z40 : n0 ≤ T40.heap.size := Nat.le_trans Z39 Kq40.1
    have K40 : Keep h0 T40.heap [a1] := K39.trans Kq40 (fun x hx => Or.inl hx)
    have eq40 : T40.heap = T40.heap := rfl
    have hk40 : T40.heap.size ≤ T40.heap.size := Nat.le_refl _
    refine Goes.via (B := T40.setTop (mkF m 97 #[.val (.ref a1), .val (.int (1 : Int32))] [(.int B), (.ref a1)])) (fun t k => st40.trans k) ?_
    obtain ⟨T41, h41, X41, e41, W41, st41⟩ := putF X40 hx hZ hown (host := "") (Or.inl (hw _ (List.mem_of_getElem? (i := 73) rfl))) Via.refl eq40 Fa1_rowLength40 Aa140 (Or.inl (hw _ (List.mem_of_getElem? (i := 74) rfl))) (hw _ (List.mem_of_getElem? (i := 12) rfl)) (ty := .int) (by decide) rfl rfl (g := (mkF m 97 #[.val (.ref a1), .val (.int (1 : Int32))] [(.int B), (.ref a1)])) rfl rfl (hb hby d7_97)
    have Fa1_run_41 := Fa1_run40.other W41 (Or.inr (slot_ne (Or.inl (hw _ (List.mem_of_getElem? (i := 26) rfl))) (Or.inl (hw _ (List.mem_of_getElem? (i := 74) rfl))) (by decide) (t := (.array .byte)) (by decide) (t' := .int) (by decide)))
    have Fa1_start_41 := Fa1_start40.other W41 (Or.inr (slot_ne (Or.inl (hw _ (List.mem_of_getElem? (i := 28) rfl))) (Or.inl (hw _ (List.mem_of_getElem? (i := 74) rfl))) (by decide) (t := .long) (by decide) (t' := .int) (by decide)))
    have Fa1_next_41 := Fa1_next40.other W41 (Or.inr (slot_ne (Or.inl (hw _ (List.mem_of_getElem? (i := 30) rfl))) (Or.inl (hw _ (List.mem_of_getElem? (i := 74) rfl))) (by decide) (t := .int) (by decide) (t' := .int) (by decide)))
    have Fa1_tableAt_41 := Fa1_tableAt40.other W41 (Or.inr (slot_ne (Or.inl (hw _ (List.mem_of_getElem? (i := 32) rfl))) (Or.inl (hw _ (List.mem_of_getElem? (i := 74) rfl))) (by decide) (t := .int) (by decide) (t' := .int) (by decide)))
    have Fa1_tableLength_41 := Fa1_tableLength40.other W41 (Or.inr (slot_ne (Or.inl (hw _ (List.mem_of_getElem? (i := 72) rfl))) (Or.inl (hw _ (List.mem_of_getElem? (i := 74) rfl))) (by decide) (t := .int) (by decide) (t' := .int) (by decide)))
    have Fa1_rowAt_41 := Fa1_rowAt40.other W41 (Or.inr (slot_ne (Or.inl (hw _ (List.mem_of_getElem? (i := 76) rfl))) (Or.inl (hw _ (List.mem_of_getElem? (i := 74) rfl))) (by decide) (t := .int) (by decide) (t' := .int) (by decide)))
    have Fa1_columnAt_41 := Fa1_columnAt40.other W41 (Or.inr (slot_ne (Or.inl (hw _ (List.mem_of_getElem? (i := 80) rfl))) (Or.inl (hw _ (List.mem_of_getElem? (i := 74) rfl))) (by decide) (t := .int) (by decide) (t' := .int) (by decide)))
    have Fa1_columnLength_41 := Fa1_columnLength40.other W41 (Or.inr (slot_ne (Or.inl (hw _ (List.mem_of_getElem? (i := 78) rfl))) (Or.inl (hw _ (List.mem_of_getElem? (i := 74) rfl))) (by decide) (t := .int) (by decide) (t' := .int) (by decide)))
    have Fa1_deletion_41 := Fa1_deletion40.other W41 (Or.inr (slot_ne (Or.inl (hw _ (List.mem_of_getElem? (i := 82) rfl))) (Or.inl (hw _ (List.mem_of_getElem? (i := 74) rfl))) (by decide) (t := .boolean) (by decide) (t' := .int) (by decide)))
    have Fa1_namesRow_41 := Fa1_namesRow40.other W41 (Or.inr (slot_ne (Or.inl (hw _ (List.mem_of_getElem? (i := 39) rfl))) (Or.inl (hw _ (List.mem_of_getElem? (i := 74) rfl))) (by decide) (t := .boolean) (by decide) (t' := .int) (by decide)))
    have Fa1_rowLength_41 := Fa1_rowLength40.same W41
    have hk41 := Nat.le_trans hk40 (Nat.le_of_eq W41.size.symm)
    have Vr1_41 := Vr1_40.other W41 ne0
    have Ea1_41 := Aa140.wr W41
    have N41 := Fr.snoc X41 N40 g_a1
    have Z41 : n0 ≤ h41.size := Nat.le_trans Z40 (Nat.le_of_eq W41.size.symm)
    have K41 := K40.wr W41 (Or.inl (List.mem_singleton.mpr rfl))
    refine Goes.via (B := T41.setTop (mkF m 100 #[.val (.ref a1), .val (.int (1 : Int32))] [])) st41 ?_
    refine Goes.via (B := T41.setTop (mkF m 101 #[.val (.ref a1), .val (.int (1 : Int32))] [(.ref a1)])) (fun t k => XS.aloadN X41.here hx rfl (hb hby d7_100) rfl rfl k) ?_
    refine Goes.via (B := T41.setTop (mkF m 102 #[.val (.ref a1), .val (.int (1 : Int32))] [(.ref a1), (.ref a1)])) (fun t k => XS.aloadN X41.here hx rfl (hb hby d7_101) rfl rfl k) ?_
    obtain ⟨T42, X42, e42, st42⟩ := getF X41 hx hZ hown (host := "") (Or.inl (hw _ (List.mem_of_getElem? (i := 29) rfl))) Via.refl e41 Fa1_next_41 (g := (mkF m 102 #[.val (.ref a1), .val (.int (1 : Int32))] [(.ref a1), (.ref a1)])) rfl rfl (hb hby d7_102)
    refine Goes.via (B := T42.setTop (mkF m 105 #[.val (.ref a1), .val (.int (1 : Int32))] [(.int (own_nx (own_nx (1 : Int32) A) B)), (.ref a1)])) st42 ?_
    refine Goes.via (B := T42.setTop (mkF m 106 #[.val (.ref a1), .val (.int (1 : Int32))] [(.ref a1), (.int (own_nx (own_nx (1 : Int32) A) B)), (.ref a1)])) (fun t k => XS.aloadN X42.here hx rfl (hb hby d7_105) rfl rfl k) ?_
    obtain ⟨T43, X43, e43, st43⟩ := getF X42 hx hZ hown (host := "") (Or.inl (hw _ (List.mem_of_getElem? (i := 73) rfl))) Via.refl e42 Fa1_rowLength_41 (g := (mkF m 106 #[.val (.ref a1), .val (.int (1 : Int32))] [(.ref a1), (.int (own_nx (own_nx (1 : Int32) A) B)), (.ref a1)])) rfl rfl (hb hby d7_106)
    refine Goes.via (B := T43.setTop (mkF m 109 #[.val (.ref a1), .val (.int (1 : Int32))] [(.int B), (.int (own_nx (own_nx (1 : Int32) A) B)), (.ref a1)])) st43 ?_
    refine Goes.via (B := T43.setTop (mkF m 110 #[.val (.ref a1), .val (.int (1 : Int32))] [(.int ((own_nx (own_nx (1 : Int32) A) B) - B)), (.ref a1)])) (fun t k => XS.isub X43.here hx rfl (hb hby d7_109) rfl k) ?_
    obtain ⟨T44, h44, X44, e44, W44, st44⟩ := putF X43 hx hZ hown (host := "") (Or.inl (hw _ (List.mem_of_getElem? (i := 75) rfl))) Via.refl e43 Fa1_rowAt_41 Ea1_41 (Or.inl (hw _ (List.mem_of_getElem? (i := 76) rfl))) (hw _ (List.mem_of_getElem? (i := 12) rfl)) (ty := .int) (by decide) rfl rfl (g := (mkF m 110 #[.val (.ref a1), .val (.int (1 : Int32))] [(.int ((own_nx (own_nx (1 : Int32) A) B) - B)), (.ref a1)])) rfl rfl (hb hby d7_110)
    have Fa1_run_44 := Fa1_run_41.other W44 (Or.inr (slot_ne (Or.inl (hw _ (List.mem_of_getElem? (i := 26) rfl))) (Or.inl (hw _ (List.mem_of_getElem? (i := 76) rfl))) (by decide) (t := (.array .byte)) (by decide) (t' := .int) (by decide)))
    have Fa1_start_44 := Fa1_start_41.other W44 (Or.inr (slot_ne (Or.inl (hw _ (List.mem_of_getElem? (i := 28) rfl))) (Or.inl (hw _ (List.mem_of_getElem? (i := 76) rfl))) (by decide) (t := .long) (by decide) (t' := .int) (by decide)))
    have Fa1_next_44 := Fa1_next_41.other W44 (Or.inr (slot_ne (Or.inl (hw _ (List.mem_of_getElem? (i := 30) rfl))) (Or.inl (hw _ (List.mem_of_getElem? (i := 76) rfl))) (by decide) (t := .int) (by decide) (t' := .int) (by decide)))
    have Fa1_tableAt_44 := Fa1_tableAt_41.other W44 (Or.inr (slot_ne (Or.inl (hw _ (List.mem_of_getElem? (i := 32) rfl))) (Or.inl (hw _ (List.mem_of_getElem? (i := 76) rfl))) (by decide) (t := .int) (by decide) (t' := .int) (by decide)))
    have Fa1_tableLength_44 := Fa1_tableLength_41.other W44 (Or.inr (slot_ne (Or.inl (hw _ (List.mem_of_getElem? (i := 72) rfl))) (Or.inl (hw _ (List.mem_of_getElem? (i := 76) rfl))) (by decide) (t := .int) (by decide) (t' := .int) (by decide)))
    have Fa1_rowLength_44 := Fa1_rowLength_41.other W44 (Or.inr (slot_ne (Or.inl (hw _ (List.mem_of_getElem? (i := 74) rfl))) (Or.inl (hw _ (List.mem_of_getElem? (i := 76) rfl))) (by decide) (t := .int) (by decide) (t' := .int) (by decide)))
    have Fa1_columnAt_44 := Fa1_columnAt_41.other W44 (Or.inr (slot_ne (Or.inl (hw _ (List.mem_of_getElem? (i := 80) rfl))) (Or.inl (hw _ (List.mem_of_getElem? (i := 76) rfl))) (by decide) (t := .int) (by decide) (t' := .int) (by decide)))
    have Fa1_columnLength_44 := Fa1_columnLength_41.other W44 (Or.inr (slot_ne (Or.inl (hw _ (List.mem_of_getElem? (i := 78) rfl))) (Or.inl (hw _ (List.mem_of_getElem? (i := 76) rfl))) (by decide) (t := .int) (by decide) (t' := .int) (by decide)))
    have Fa1_deletion_44 := Fa1_deletion_41.other W44 (Or.inr (slot_ne (Or.inl (hw _ (List.mem_of_getElem? (i := 82) rfl))) (Or.inl (hw _ (List.mem_of_getElem? (i := 76) rfl))) (by decide) (t := .boolean) (by decide) (t' := .int) (by decide)))
    have Fa1_namesRow_44 := Fa1_namesRow_41.other W44 (Or.inr (slot_ne (Or.inl (hw _ (List.mem_of_getElem? (i := 39) rfl))) (Or.inl (hw _ (List.mem_of_getElem? (i := 76) rfl))) (by decide) (t := .boolean) (by decide) (t' := .int) (by decide)))
    have Fa1_rowAt_44 := Fa1_rowAt_41.same W44
    have hk44 := Nat.le_trans hk41 (Nat.le_of_eq W44.size.symm)
    have Vr1_44 := Vr1_41.other W44 ne0
    have Ea1_44 := Ea1_41.wr W44
    have N44 := Fr.snoc X44 N41 g_a1
    have Z44 : n0 ≤ h44.size := Nat.le_trans Z41 (Nat.le_of_eq W44.size.symm)
    have K44 := K41.wr W44 (Or.inl (List.mem_singleton.mpr rfl))
    refine Goes.via (B := T44.setTop (mkF m 113 #[.val (.ref a1), .val (.int (1 : Int32))] [])) st44 ?_
    refine Goes.via (B := T44.setTop (mkF m 141 #[.val (.ref a1), .val (.int (1 : Int32))] [])) (fun t k => XS.goto X44.here hx rfl (pc0 := 113) (pc' := 141) rfl (hb hby d7_113) (by decide) (by decide) k) ?_
    refine Goes.via (B := T44.setTop (mkF m 142 #[.val (.ref a1), .val (.int (1 : Int32))] [(.ref a1)])) (fun t k => XS.aloadN X44.here hx rfl (hb hby d7_141) rfl rfl k) ?_
    refine Goes.via (B := T44.setTop (mkF m 143 #[.val (.ref a1), .val (.int (1 : Int32))] [(.ref a1), (.ref a1)])) (fun t k => XS.aloadN X44.here hx rfl (hb hby d7_142) rfl rfl k) ?_
    obtain ⟨cq45, q45, q45'⟩ := Ea1_44.cell
    obtain ⟨_, _, ⟨T45, L45, kk45, nn45⟩, -, X45, hB45, gr45, ⟨Lc45, hQ45, l45, y45, z45⟩, st45⟩ := X44.privateBackS hx (y := (⟨"com/example/highwater/highwater/sweep/QueueLayout$RunReader", "part", "()I"⟩ : MethodName)) hown (mvT hZ (hw _ (List.mem_of_getElem? (i := 40) rfl))) (mvT hZ (hw _ (List.mem_of_getElem? (i := 41) rfl))) (own_selects (mvT hZ (hw _ (List.mem_of_getElem? (i := 41) rfl))) (mvP hZ (hw _ (List.mem_of_getElem? (i := 42) rfl)) (args := #[])) (mvT hZ (hw _ (List.mem_of_getElem? (i := 12) rfl))) (by decide)) (Cond.privateMethod_at (mvP hZ (hw _ (List.mem_of_getElem? (i := 42) rfl)) (args := #[]))) (mvT hZ (hw _ (List.mem_of_getElem? (i := 43) rfl))) (by decide) (backOfS (W := 1) (rm6 l Z a0 hw [] a1 r1 k1 vs st (own_nx (own_nx (1 : Int32) A) B) ((own_nx (1 : Int32) A) - A) A ((own_nx (own_nx (1 : Int32) A) B) - B) B ca cl dl (1 : Int32) C h44 n0 Z44 ⟨Ea1_44, Fa1_run_44, Fa1_start_44, Fa1_next_44, Fa1_tableAt_44, Fa1_tableLength_44, Fa1_rowAt_44, Fa1_rowLength_44, Fa1_columnAt_44, Fa1_columnLength_44, Fa1_deletion_44, Fa1_namesRow_44⟩ Vr1_44 ne0 g_a1 i3 hv3 (by omega) (by omega)) hZ (hw _ (List.mem_of_getElem? (i := 43) rfl)) (hw _ (List.mem_of_getElem? (i := 13) rfl)) (by decide) (by decide)) (g := (mkF m 143 #[.val (.ref a1), .val (.int (1 : Int32))] [(.ref a1), (.ref a1)])) rfl (by rw [hml]; rfl) (Steps.refl _) (a := a1) (by rw [e44]; exact q45) q45' (argsL := []) (rest := [(.ref a1)]) (lenOf pd___I rfl) rfl (by show 2 * 0 + _ ≤ _; exact Nat.le_of_eq rfl) (hb hby d7_143) (fun _ _ => ⟨rfl, e44, (by decide : 4 + 2 ≤ _), (by decide : 296 + 148 ≤ _)⟩)
    dsimp only [Pt.U, Pt.locs, Pt.cells, Pt.slots] at X45 l45 y45 z45 st45 hQ45 hB45 gr45
    subst l45 y45 z45
    obtain ⟨X45, hS45, hZ, hown⟩ := rebS (s := s) hS40 (show _ ≤ T44.heap.size by rw [e44]; exact hk44) X45 hB45 gr45 hZ hown
    obtain ⟨rfl, Nq45, Kq45, Rq45⟩ := hQ45
    have N45 := Fr.app N44 Nq45
    have Vr1_45 := Vr1_44.keep Kq45 (ninS ne0 nin0)
    have Ea1_45 := Ea1_44.keep Kq45
    obtain ⟨Aa145, Fa1_run45, Fa1_start45, Fa1_next45, Fa1_tableAt45, Fa1_tableLength45, Fa1_rowAt45, Fa1_rowLength45, Fa1_columnAt45, Fa1_columnLength45, Fa1_deletion45, Fa1_namesRow45⟩ := Rq45
    have Z45 : n0 ≤ T45.heap.size := Nat.le_trans Z44 Kq45.1
    have K45 : Keep h0 T45.heap [a1] := K44.trans Kq45 (fun x hx => Or.inl hx)
    have eq45 : T45.heap = T45.heap := rfl
    have hk45 : T45.heap.size ≤ T45.heap.size := Nat.le_refl _
    refine Goes.via (B := T45.setTop (mkF m 146 #[.val (.ref a1), .val (.int (1 : Int32))] [(.int C), (.ref a1)])) (fun t k => st45.trans k) ?_
    obtain ⟨T46, h46, X46, e46, W46, st46⟩ := putF X45 hx hZ hown (host := "") (Or.inl (hw _ (List.mem_of_getElem? (i := 77) rfl))) Via.refl eq45 Fa1_columnLength45 Aa145 (Or.inl (hw _ (List.mem_of_getElem? (i := 78) rfl))) (hw _ (List.mem_of_getElem? (i := 12) rfl)) (ty := .int) (by decide) rfl rfl (g := (mkF m 146 #[.val (.ref a1), .val (.int (1 : Int32))] [(.int C), (.ref a1)])) rfl rfl (hb hby d7_146)
    have Fa1_run_46 := Fa1_run45.other W46 (Or.inr (slot_ne (Or.inl (hw _ (List.mem_of_getElem? (i := 26) rfl))) (Or.inl (hw _ (List.mem_of_getElem? (i := 78) rfl))) (by decide) (t := (.array .byte)) (by decide) (t' := .int) (by decide)))
    have Fa1_start_46 := Fa1_start45.other W46 (Or.inr (slot_ne (Or.inl (hw _ (List.mem_of_getElem? (i := 28) rfl))) (Or.inl (hw _ (List.mem_of_getElem? (i := 78) rfl))) (by decide) (t := .long) (by decide) (t' := .int) (by decide)))
    have Fa1_next_46 := Fa1_next45.other W46 (Or.inr (slot_ne (Or.inl (hw _ (List.mem_of_getElem? (i := 30) rfl))) (Or.inl (hw _ (List.mem_of_getElem? (i := 78) rfl))) (by decide) (t := .int) (by decide) (t' := .int) (by decide)))
    have Fa1_tableAt_46 := Fa1_tableAt45.other W46 (Or.inr (slot_ne (Or.inl (hw _ (List.mem_of_getElem? (i := 32) rfl))) (Or.inl (hw _ (List.mem_of_getElem? (i := 78) rfl))) (by decide) (t := .int) (by decide) (t' := .int) (by decide)))
    have Fa1_tableLength_46 := Fa1_tableLength45.other W46 (Or.inr (slot_ne (Or.inl (hw _ (List.mem_of_getElem? (i := 72) rfl))) (Or.inl (hw _ (List.mem_of_getElem? (i := 78) rfl))) (by decide) (t := .int) (by decide) (t' := .int) (by decide)))
    have Fa1_rowAt_46 := Fa1_rowAt45.other W46 (Or.inr (slot_ne (Or.inl (hw _ (List.mem_of_getElem? (i := 76) rfl))) (Or.inl (hw _ (List.mem_of_getElem? (i := 78) rfl))) (by decide) (t := .int) (by decide) (t' := .int) (by decide)))
    have Fa1_rowLength_46 := Fa1_rowLength45.other W46 (Or.inr (slot_ne (Or.inl (hw _ (List.mem_of_getElem? (i := 74) rfl))) (Or.inl (hw _ (List.mem_of_getElem? (i := 78) rfl))) (by decide) (t := .int) (by decide) (t' := .int) (by decide)))
    have Fa1_columnAt_46 := Fa1_columnAt45.other W46 (Or.inr (slot_ne (Or.inl (hw _ (List.mem_of_getElem? (i := 80) rfl))) (Or.inl (hw _ (List.mem_of_getElem? (i := 78) rfl))) (by decide) (t := .int) (by decide) (t' := .int) (by decide)))
    have Fa1_deletion_46 := Fa1_deletion45.other W46 (Or.inr (slot_ne (Or.inl (hw _ (List.mem_of_getElem? (i := 82) rfl))) (Or.inl (hw _ (List.mem_of_getElem? (i := 78) rfl))) (by decide) (t := .boolean) (by decide) (t' := .int) (by decide)))
    have Fa1_namesRow_46 := Fa1_namesRow45.other W46 (Or.inr (slot_ne (Or.inl (hw _ (List.mem_of_getElem? (i := 39) rfl))) (Or.inl (hw _ (List.mem_of_getElem? (i := 78) rfl))) (by decide) (t := .boolean) (by decide) (t' := .int) (by decide)))
    have Fa1_columnLength_46 := Fa1_columnLength45.same W46
    have hk46 := Nat.le_trans hk45 (Nat.le_of_eq W46.size.symm)
    have Vr1_46 := Vr1_45.other W46 ne0
    have Ea1_46 := Aa145.wr W46
    have N46 := Fr.snoc X46 N45 g_a1
    have Z46 : n0 ≤ h46.size := Nat.le_trans Z45 (Nat.le_of_eq W46.size.symm)
    have K46 := K45.wr W46 (Or.inl (List.mem_singleton.mpr rfl))
    refine Goes.via (B := T46.setTop (mkF m 149 #[.val (.ref a1), .val (.int (1 : Int32))] [])) st46 ?_
    refine Goes.via (B := T46.setTop (mkF m 150 #[.val (.ref a1), .val (.int (1 : Int32))] [(.ref a1)])) (fun t k => XS.aloadN X46.here hx rfl (hb hby d7_149) rfl rfl k) ?_
    refine Goes.via (B := T46.setTop (mkF m 151 #[.val (.ref a1), .val (.int (1 : Int32))] [(.ref a1), (.ref a1)])) (fun t k => XS.aloadN X46.here hx rfl (hb hby d7_150) rfl rfl k) ?_
    obtain ⟨T47, X47, e47, st47⟩ := getF X46 hx hZ hown (host := "") (Or.inl (hw _ (List.mem_of_getElem? (i := 29) rfl))) Via.refl e46 Fa1_next_46 (g := (mkF m 151 #[.val (.ref a1), .val (.int (1 : Int32))] [(.ref a1), (.ref a1)])) rfl rfl (hb hby d7_151)
    refine Goes.via (B := T47.setTop (mkF m 154 #[.val (.ref a1), .val (.int (1 : Int32))] [(.int (own_nx (own_nx (own_nx (1 : Int32) A) B) C)), (.ref a1)])) st47 ?_
    refine Goes.via (B := T47.setTop (mkF m 155 #[.val (.ref a1), .val (.int (1 : Int32))] [(.ref a1), (.int (own_nx (own_nx (own_nx (1 : Int32) A) B) C)), (.ref a1)])) (fun t k => XS.aloadN X47.here hx rfl (hb hby d7_154) rfl rfl k) ?_
    obtain ⟨T48, X48, e48, st48⟩ := getF X47 hx hZ hown (host := "") (Or.inl (hw _ (List.mem_of_getElem? (i := 77) rfl))) Via.refl e47 Fa1_columnLength_46 (g := (mkF m 155 #[.val (.ref a1), .val (.int (1 : Int32))] [(.ref a1), (.int (own_nx (own_nx (own_nx (1 : Int32) A) B) C)), (.ref a1)])) rfl rfl (hb hby d7_155)
    refine Goes.via (B := T48.setTop (mkF m 158 #[.val (.ref a1), .val (.int (1 : Int32))] [(.int C), (.int (own_nx (own_nx (own_nx (1 : Int32) A) B) C)), (.ref a1)])) st48 ?_
    refine Goes.via (B := T48.setTop (mkF m 159 #[.val (.ref a1), .val (.int (1 : Int32))] [(.int ((own_nx (own_nx (own_nx (1 : Int32) A) B) C) - C)), (.ref a1)])) (fun t k => XS.isub X48.here hx rfl (hb hby d7_158) rfl k) ?_
    obtain ⟨T49, h49, X49, e49, W49, st49⟩ := putF X48 hx hZ hown (host := "") (Or.inl (hw _ (List.mem_of_getElem? (i := 79) rfl))) Via.refl e48 Fa1_columnAt_46 Ea1_46 (Or.inl (hw _ (List.mem_of_getElem? (i := 80) rfl))) (hw _ (List.mem_of_getElem? (i := 12) rfl)) (ty := .int) (by decide) rfl rfl (g := (mkF m 159 #[.val (.ref a1), .val (.int (1 : Int32))] [(.int ((own_nx (own_nx (own_nx (1 : Int32) A) B) C) - C)), (.ref a1)])) rfl rfl (hb hby d7_159)
    have Fa1_run_49 := Fa1_run_46.other W49 (Or.inr (slot_ne (Or.inl (hw _ (List.mem_of_getElem? (i := 26) rfl))) (Or.inl (hw _ (List.mem_of_getElem? (i := 80) rfl))) (by decide) (t := (.array .byte)) (by decide) (t' := .int) (by decide)))
    have Fa1_start_49 := Fa1_start_46.other W49 (Or.inr (slot_ne (Or.inl (hw _ (List.mem_of_getElem? (i := 28) rfl))) (Or.inl (hw _ (List.mem_of_getElem? (i := 80) rfl))) (by decide) (t := .long) (by decide) (t' := .int) (by decide)))
    have Fa1_next_49 := Fa1_next_46.other W49 (Or.inr (slot_ne (Or.inl (hw _ (List.mem_of_getElem? (i := 30) rfl))) (Or.inl (hw _ (List.mem_of_getElem? (i := 80) rfl))) (by decide) (t := .int) (by decide) (t' := .int) (by decide)))
    have Fa1_tableAt_49 := Fa1_tableAt_46.other W49 (Or.inr (slot_ne (Or.inl (hw _ (List.mem_of_getElem? (i := 32) rfl))) (Or.inl (hw _ (List.mem_of_getElem? (i := 80) rfl))) (by decide) (t := .int) (by decide) (t' := .int) (by decide)))
    have Fa1_tableLength_49 := Fa1_tableLength_46.other W49 (Or.inr (slot_ne (Or.inl (hw _ (List.mem_of_getElem? (i := 72) rfl))) (Or.inl (hw _ (List.mem_of_getElem? (i := 80) rfl))) (by decide) (t := .int) (by decide) (t' := .int) (by decide)))
    have Fa1_rowAt_49 := Fa1_rowAt_46.other W49 (Or.inr (slot_ne (Or.inl (hw _ (List.mem_of_getElem? (i := 76) rfl))) (Or.inl (hw _ (List.mem_of_getElem? (i := 80) rfl))) (by decide) (t := .int) (by decide) (t' := .int) (by decide)))
    have Fa1_rowLength_49 := Fa1_rowLength_46.other W49 (Or.inr (slot_ne (Or.inl (hw _ (List.mem_of_getElem? (i := 74) rfl))) (Or.inl (hw _ (List.mem_of_getElem? (i := 80) rfl))) (by decide) (t := .int) (by decide) (t' := .int) (by decide)))
    have Fa1_columnLength_49 := Fa1_columnLength_46.other W49 (Or.inr (slot_ne (Or.inl (hw _ (List.mem_of_getElem? (i := 78) rfl))) (Or.inl (hw _ (List.mem_of_getElem? (i := 80) rfl))) (by decide) (t := .int) (by decide) (t' := .int) (by decide)))
    have Fa1_deletion_49 := Fa1_deletion_46.other W49 (Or.inr (slot_ne (Or.inl (hw _ (List.mem_of_getElem? (i := 82) rfl))) (Or.inl (hw _ (List.mem_of_getElem? (i := 80) rfl))) (by decide) (t := .boolean) (by decide) (t' := .int) (by decide)))
    have Fa1_namesRow_49 := Fa1_namesRow_46.other W49 (Or.inr (slot_ne (Or.inl (hw _ (List.mem_of_getElem? (i := 39) rfl))) (Or.inl (hw _ (List.mem_of_getElem? (i := 80) rfl))) (by decide) (t := .boolean) (by decide) (t' := .int) (by decide)))
    have Fa1_columnAt_49 := Fa1_columnAt_46.same W49
    have hk49 := Nat.le_trans hk46 (Nat.le_of_eq W49.size.symm)
    have Vr1_49 := Vr1_46.other W49 ne0
    have Ea1_49 := Ea1_46.wr W49
    have N49 := Fr.snoc X49 N46 g_a1
    have Z49 : n0 ≤ h49.size := Nat.le_trans Z46 (Nat.le_of_eq W49.size.symm)
    have K49 := K46.wr W49 (Or.inl (List.mem_singleton.mpr rfl))
    refine Goes.via (B := T49.setTop (mkF m 162 #[.val (.ref a1), .val (.int (1 : Int32))] [])) st49 ?_
    refine Goes.via (B := T49.setTop (mkF m 163 #[.val (.ref a1), .val (.int (1 : Int32))] [(.ref a1)])) (fun t k => XS.aloadN X49.here hx rfl (hb hby d7_162) rfl rfl k) ?_
    refine Goes.via (B := T49.setTop (mkF m 164 #[.val (.ref a1), .val (.int (1 : Int32))] [(.int (1 : Int32)), (.ref a1)])) (fun t k => XS.iloadN X49.here hx rfl (hb hby d7_163) rfl k) ?_
    refine Goes.via (B := T49.setTop (mkF m 165 #[.val (.ref a1), .val (.int (1 : Int32))] [(.int (2 : Int32)), (.int (1 : Int32)), (.ref a1)])) (fun t k => XS.iconst X49.here hx rfl (hb hby d7_164) k) ?_
    refine Goes.via (B := T49.setTop (mkF m 166 #[.val (.ref a1), .val (.int (1 : Int32))] [(.int ((1 : Int32) % (2 : Int32))), (.ref a1)])) (fun t k => iremM X49 hx rfl (hb hby d7_165) rfl (by decide) k) ?_
    rw [show ((1 : Int32) % (2 : Int32)) = (1 : Int32) from by decide +kernel]
    refine Goes.via (B := T49.setTop (mkF m 173 #[.val (.ref a1), .val (.int (1 : Int32))] [(.ref a1)])) (fun t k => XS.ifYes X49.here hx rfl (pc0 := 166) (pc' := 173) rfl (hb hby d7_166) rfl ((if0 _ _).trans (feq (by decide : ¬ (1 : Int32) = (0 : Int32))).2) (by decide) (by decide) k) ?_
    refine Goes.via (B := T49.setTop (mkF m 174 #[.val (.ref a1), .val (.int (1 : Int32))] [(.int (0 : Int32)), (.ref a1)])) (fun t k => XS.iconst X49.here hx rfl (hb hby d7_173) k) ?_
    obtain ⟨T50, h50, X50, e50, W50, st50⟩ := putF X49 hx hZ hown (host := "") (Or.inl (hw _ (List.mem_of_getElem? (i := 81) rfl))) Via.refl e49 Fa1_deletion_49 Ea1_49 (Or.inl (hw _ (List.mem_of_getElem? (i := 82) rfl))) (hw _ (List.mem_of_getElem? (i := 12) rfl)) (ty := .boolean) (by decide) rfl rfl (g := (mkF m 174 #[.val (.ref a1), .val (.int (1 : Int32))] [(.int (0 : Int32)), (.ref a1)])) rfl rfl (hb hby d7_174)
    have Fa1_run_50 := Fa1_run_49.other W50 (Or.inr (slot_ne (Or.inl (hw _ (List.mem_of_getElem? (i := 26) rfl))) (Or.inl (hw _ (List.mem_of_getElem? (i := 82) rfl))) (by decide) (t := (.array .byte)) (by decide) (t' := .boolean) (by decide)))
    have Fa1_start_50 := Fa1_start_49.other W50 (Or.inr (slot_ne (Or.inl (hw _ (List.mem_of_getElem? (i := 28) rfl))) (Or.inl (hw _ (List.mem_of_getElem? (i := 82) rfl))) (by decide) (t := .long) (by decide) (t' := .boolean) (by decide)))
    have Fa1_next_50 := Fa1_next_49.other W50 (Or.inr (slot_ne (Or.inl (hw _ (List.mem_of_getElem? (i := 30) rfl))) (Or.inl (hw _ (List.mem_of_getElem? (i := 82) rfl))) (by decide) (t := .int) (by decide) (t' := .boolean) (by decide)))
    have Fa1_tableAt_50 := Fa1_tableAt_49.other W50 (Or.inr (slot_ne (Or.inl (hw _ (List.mem_of_getElem? (i := 32) rfl))) (Or.inl (hw _ (List.mem_of_getElem? (i := 82) rfl))) (by decide) (t := .int) (by decide) (t' := .boolean) (by decide)))
    have Fa1_tableLength_50 := Fa1_tableLength_49.other W50 (Or.inr (slot_ne (Or.inl (hw _ (List.mem_of_getElem? (i := 72) rfl))) (Or.inl (hw _ (List.mem_of_getElem? (i := 82) rfl))) (by decide) (t := .int) (by decide) (t' := .boolean) (by decide)))
    have Fa1_rowAt_50 := Fa1_rowAt_49.other W50 (Or.inr (slot_ne (Or.inl (hw _ (List.mem_of_getElem? (i := 76) rfl))) (Or.inl (hw _ (List.mem_of_getElem? (i := 82) rfl))) (by decide) (t := .int) (by decide) (t' := .boolean) (by decide)))
    have Fa1_rowLength_50 := Fa1_rowLength_49.other W50 (Or.inr (slot_ne (Or.inl (hw _ (List.mem_of_getElem? (i := 74) rfl))) (Or.inl (hw _ (List.mem_of_getElem? (i := 82) rfl))) (by decide) (t := .int) (by decide) (t' := .boolean) (by decide)))
    have Fa1_columnAt_50 := Fa1_columnAt_49.other W50 (Or.inr (slot_ne (Or.inl (hw _ (List.mem_of_getElem? (i := 80) rfl))) (Or.inl (hw _ (List.mem_of_getElem? (i := 82) rfl))) (by decide) (t := .int) (by decide) (t' := .boolean) (by decide)))
    have Fa1_columnLength_50 := Fa1_columnLength_49.other W50 (Or.inr (slot_ne (Or.inl (hw _ (List.mem_of_getElem? (i := 78) rfl))) (Or.inl (hw _ (List.mem_of_getElem? (i := 82) rfl))) (by decide) (t := .int) (by decide) (t' := .boolean) (by decide)))
    have Fa1_namesRow_50 := Fa1_namesRow_49.other W50 (Or.inr (slot_ne (Or.inl (hw _ (List.mem_of_getElem? (i := 39) rfl))) (Or.inl (hw _ (List.mem_of_getElem? (i := 82) rfl))) (by decide) (t := .boolean) (by decide) (t' := .boolean) (by decide)))
    have Fa1_deletion_50 := Fa1_deletion_49.same W50
    have hk50 := Nat.le_trans hk49 (Nat.le_of_eq W50.size.symm)
    have Vr1_50 := Vr1_49.other W50 ne0
    have Ea1_50 := Ea1_49.wr W50
    have N50 := Fr.snoc X50 N49 g_a1
    have Z50 : n0 ≤ h50.size := Nat.le_trans Z49 (Nat.le_of_eq W50.size.symm)
    have K50 := K49.wr W50 (Or.inl (List.mem_singleton.mpr rfl))
    refine Goes.via (B := T50.setTop (mkF m 177 #[.val (.ref a1), .val (.int (1 : Int32))] [])) st50 ?_
    refine Goes.via (B := T50.setTop (mkF m 178 #[.val (.ref a1), .val (.int (1 : Int32))] [(.int (1 : Int32))])) (fun t k => XS.iconst X50.here hx rfl (hb hby d7_177) k) ?_
    exact own_outW (s := s) X50 hS45 (by rw [e50]; exact hk50) (v := some (.int (1 : Int32))) (fun h => by rw [Bd.returns] at h; cases h) Bd.notSynchronized (fun fs hr => retOut X50 hx Bd.returns rfl (Or.inl ⟨rfl, Or.inr (Or.inl rfl), _, rfl⟩) (hb hby d7_178) hr) ⟨rfl, N50, (by rw [e50]; exact K50), (by rw [e50]; exact ⟨Ea1_50, Fa1_run_50, Fa1_start_50, Fa1_next_50, Fa1_tableAt_50, Fa1_tableLength_50, Fa1_rowAt_50, Fa1_rowLength_50, Fa1_columnAt_50, Fa1_columnLength_50, Fa1_deletion_50, Fa1_namesRow_50⟩)⟩ (by decide) (by decide)
theorem d7_12 : decode prog_79_method_3_code 12 = .ok (.aload_n 0, 1) := by decide +kernel
theorem d7_13 : decode prog_79_method_3_code 13 = .ok (.getfield 19, 3) := by decide +kernel
theorem d7_16 : decode prog_79_method_3_code 16 = .ok (.ifCond .ne 11, 3) := by decide +kernel
theorem d7_27 : decode prog_79_method_3_code 27 = .ok (.iconst 0, 1) := by decide +kernel
theorem d7_28 : decode prog_79_method_3_code 28 = .ok (.ireturn, 1) := by decide +kernel
theorem ef_8 (m : MethodId) (x0 : Addr) : entryFrame m #[(.ref x0)] 2 = mkF m 0 #[.val (.ref x0), .unset] [] := by first | (simp [entryFrame, mkF, argsToLocals, Value.category]; done) | rfl
def Q8 (Z : State) (a1 : Addr) (r1 : Addr) (k1 : ClassId) (vs : List Value) (nx : Int32) (h0 : Heap) (n0 : Nat) (v : Option Value) (h : Heap) (L : List Loc) : Prop := v = some (.int (0 : Int32)) ∧ Fr n0 L ∧ h = h0
set_option maxRecDepth 65536 in
set_option maxHeartbeats 40000000 in
theorem rm8 (l : Launch) (Z : State) (a0 : Array Value) (hw : ∀ d ∈ tables_1, d.before a0 Z = true) (ws : List Jvm.Cond) (a1 : Addr) (r1 : Addr) (k1 : ClassId) (vs : List Value) (nx : Int32) (h0 : Heap) (n0 : Nat) (Z0 : n0 ≤ h0.size) (F1 : Fld Z h0 a1 "com/example/highwater/highwater/sweep/QueueLayout$RunReader" "run" "[B" (.ref r1)) (F2 : Fld Z h0 a1 "com/example/highwater/highwater/sweep/QueueLayout$RunReader" "next" "I" (.int nx)) (V0 : Arv Z h0 r1 k1 .byte (7 : Int32) vs (.int (0 : Int32))) (h7 : nx = (7 : Int32)) :
    MetFree l (⟨"com/example/highwater/highwater/sweep/QueueLayout$RunReader", "next", "()Z"⟩ : MethodName) (head1 (Jvm.Cond.code (⟨"com/example/highwater/highwater/sweep/QueueLayout$RunReader", "next", "()Z"⟩ : MethodName) prog_79_method_3_code 2 (some .boolean) :: ws) ({ frames := 0, cells := 0, slots := 0, locals := 0 } : Room)) (fun a U => a = #[(.ref a1)] ∧ Z.Warmed39 U.vm ∧ U.heap = h0) (fun _ _ _ _ _ => True) (fun _ U o U' => ∃ v L, o = .returned v ∧ Q8 Z a1 r1 k1 vs nx h0 n0 v U'.heap L ∧ FrameEnd U o U' L ({ frames := 0, cells := 0, slots := 0, locals := 0 } : Room).cells ({ frames := 0, cells := 0, slots := 0, locals := 0 } : Room).slots) := by
  refine MetFree.of_bodySF (plainFor_of_name pn_com_example_highwater_highwater_sweep_QueueLayout_RunReader) hisR ?_
  intro p e s m args below meth c s₁ Bd hml0 hP hK
  obtain ⟨rfl, hZ, hh⟩ := hP
  have hx := Bd.exec
  have hby := Bd.bytes
  have hml : c.maxLocals = 2 := hml0
  have hown : s.vm.findClass "com/example/highwater/highwater/sweep/QueueLayout$RunReader" = some m.cls := findClass_of_methodNamed Bd.named
  have hnm := (name_of_methodNamed Bd.named Bd.method).1
  have X0 : Stand p l e ({ frames := 0, cells := 0, slots := 0, locals := 0 } : Room) s m #[(.ref a1)] below meth c s₁ [] 0 0 := Stand.of_body Bd
  have e0 : s₁.heap = h0 := by rw [← hh, Bd.state]; rfl
  have N0 := Fr.nil n0
  show Goes p e below (fun s₂ o => ∃ v L, o = .returned v ∧ Q8 Z a1 r1 k1 vs nx h0 n0 v s₂.heap L ∧ FrameEnd s o s₂ L ({ frames := 0, cells := 0, slots := 0, locals := 0 } : Room).cells ({ frames := 0, cells := 0, slots := 0, locals := 0 } : Room).slots) (s₁.setTop (entryFrame m #[(.ref a1)] 2))
  refine Goes.cast (ef_8 m a1) ?_
  refine Goes.via (B := s₁.setTop (mkF m 1 #[.val (.ref a1), .unset] [(.ref a1)])) (fun t k => XS.aloadN X0.here hx rfl (hb hby d7_0) rfl rfl k) ?_
  obtain ⟨T1, X1, e1, st1⟩ := getF X0 hx hZ hown (host := "") (Or.inl (hw _ (List.mem_of_getElem? (i := 29) rfl))) Via.refl e0 F2 (g := (mkF m 1 #[.val (.ref a1), .unset] [(.ref a1)])) rfl rfl (hb hby d7_1)
  refine Goes.via (B := T1.setTop (mkF m 4 #[.val (.ref a1), .unset] [(.int nx)])) st1 ?_
  refine Goes.via (B := T1.setTop (mkF m 5 #[.val (.ref a1), .unset] [(.ref a1), (.int nx)])) (fun t k => XS.aloadN X1.here hx rfl (hb hby d7_4) rfl rfl k) ?_
  obtain ⟨T2, X2, e2, st2⟩ := getF X1 hx hZ hown (host := "") (Or.inl (hw _ (List.mem_of_getElem? (i := 25) rfl))) Via.refl e1 F1 (g := (mkF m 5 #[.val (.ref a1), .unset] [(.ref a1), (.int nx)])) rfl rfl (hb hby d7_5)
  refine Goes.via (B := T2.setTop (mkF m 8 #[.val (.ref a1), .unset] [(.ref r1), (.int nx)])) st2 ?_
  have Vc3 := V0
  obtain ⟨cl3, Ar3, q3, S3, M3, H3, G3⟩ := Vc3
  have ln3 := len_of S3 M3
  refine Goes.via (B := T2.setTop (mkF m 9 #[.val (.ref a1), .unset] [(.int (7 : Int32)), (.int nx)])) (fun t k => X2.arraylength hx (by rw [e2]; exact Ar3.1) (State.isArrayOf_alike hZ.alike Ar3.2.1) (g := (mkF m 8 #[.val (.ref a1), .unset] [(.ref r1), (.int nx)])) rfl rfl (hb hby d7_8) _ (by rw [ln3]; exact k)) ?_
  refine Goes.via (B := T2.setTop (mkF m 12 #[.val (.ref a1), .unset] [])) (fun t k => XS.icmpNo X2.here hx rfl (hb hby d7_9) rfl (teq h7).2 k) ?_
  refine Goes.via (B := T2.setTop (mkF m 13 #[.val (.ref a1), .unset] [(.ref a1)])) (fun t k => XS.aloadN X2.here hx rfl (hb hby d7_12) rfl rfl k) ?_
  obtain ⟨T4, X4, e4, st4⟩ := getF X2 hx hZ hown (host := "") (Or.inl (hw _ (List.mem_of_getElem? (i := 29) rfl))) Via.refl e2 F2 (g := (mkF m 13 #[.val (.ref a1), .unset] [(.ref a1)])) rfl rfl (hb hby d7_13)
  refine Goes.via (B := T4.setTop (mkF m 16 #[.val (.ref a1), .unset] [(.int nx)])) st4 ?_
  refine Goes.via (B := T4.setTop (mkF m 27 #[.val (.ref a1), .unset] [])) (fun t k => XS.ifYes X4.here hx rfl (pc0 := 16) (pc' := 27) rfl (hb hby d7_16) rfl ((if0 _ _).trans (feq (by rw [h7]; decide)).2) (by decide) (by decide) k) ?_
  refine Goes.via (B := T4.setTop (mkF m 28 #[.val (.ref a1), .unset] [(.int (0 : Int32))])) (fun t k => XS.iconst X4.here hx rfl (hb hby d7_27) k) ?_
  exact own_out X4 (v := some (.int (0 : Int32))) (fun h => by rw [Bd.returns] at h; cases h) Bd.notSynchronized (fun fs hr => retOut X4 hx Bd.returns rfl (Or.inl ⟨rfl, Or.inr (Or.inl rfl), _, rfl⟩) (hb hby d7_28) hr) ⟨rfl, N0, e4⟩ (by decide) (by decide)
theorem d9_0 : decode prog_79_method_1_code 0 = .ok (.aload_n 0, 1) := by decide +kernel
theorem d9_1 : decode prog_79_method_1_code 1 = .ok (.invokespecial 3, 3) := by decide +kernel
theorem d9_4 : decode prog_79_method_1_code 4 = .ok (.return_, 1) := by decide +kernel
theorem ef_9 (m : MethodId) (x0 : Addr) : entryFrame m #[(.ref x0)] 1 = mkF m 0 #[.val (.ref x0)] [] := by first | (simp [entryFrame, mkF, argsToLocals, Value.category]; done) | rfl
def Q9 (Z : State) (a1 : Addr) (h0 : Heap) (n0 : Nat) (v : Option Value) (h : Heap) (L : List Loc) : Prop := v = none ∧ Fr n0 L ∧ h = h0
set_option maxRecDepth 65536 in
set_option maxHeartbeats 40000000 in
theorem rm9 (l : Launch) (Z : State) (a0 : Array Value) (hw : ∀ d ∈ tables_1, d.before a0 Z = true) (ws : List Jvm.Cond) (a1 : Addr) (h0 : Heap) (n0 : Nat) (Z0 : n0 ≤ h0.size)  :
    MetFree l (⟨"com/example/highwater/highwater/sweep/QueueLayout$RunReader", "<init>", "()V"⟩ : MethodName) (head1 (Jvm.Cond.code (⟨"com/example/highwater/highwater/sweep/QueueLayout$RunReader", "<init>", "()V"⟩ : MethodName) prog_79_method_1_code 1 none :: ws) ({ frames := 1, cells := 0, slots := 0, locals := 12 } : Room)) (fun a U => a = #[(.ref a1)] ∧ Z.Warmed39 U.vm ∧ U.heap = h0) (fun _ _ _ _ _ => True) (fun _ U o U' => ∃ v L, o = .returned v ∧ Q9 Z a1 h0 n0 v U'.heap L ∧ FrameEnd U o U' L ({ frames := 1, cells := 0, slots := 0, locals := 12 } : Room).cells ({ frames := 1, cells := 0, slots := 0, locals := 12 } : Room).slots) := by
  refine MetFree.of_bodySF (plainFor_of_name pn_com_example_highwater_highwater_sweep_QueueLayout_RunReader) hisR ?_
  intro p e s m args below meth c s₁ Bd hml0 hP hK
  obtain ⟨rfl, hZ, hh⟩ := hP
  have hx := Bd.exec
  have hby := Bd.bytes
  have hml : c.maxLocals = 1 := hml0
  have hown : s.vm.findClass "com/example/highwater/highwater/sweep/QueueLayout$RunReader" = some m.cls := findClass_of_methodNamed Bd.named
  have hnm := (name_of_methodNamed Bd.named Bd.method).1
  have X0 : Stand p l e ({ frames := 1, cells := 0, slots := 0, locals := 12 } : Room) s m #[(.ref a1)] below meth c s₁ [] 0 0 := Stand.of_body Bd
  have e0 : s₁.heap = h0 := by rw [← hh, Bd.state]; rfl
  have N0 := Fr.nil n0
  show Goes p e below (fun s₂ o => ∃ v L, o = .returned v ∧ Q9 Z a1 h0 n0 v s₂.heap L ∧ FrameEnd s o s₂ L ({ frames := 1, cells := 0, slots := 0, locals := 12 } : Room).cells ({ frames := 1, cells := 0, slots := 0, locals := 12 } : Room).slots) (s₁.setTop (entryFrame m #[(.ref a1)] 1))
  refine Goes.cast (ef_9 m a1) ?_
  refine Goes.via (B := s₁.setTop (mkF m 1 #[.val (.ref a1)] [(.ref a1)])) (fun t k => XS.aloadN X0.here hx rfl (hb hby d9_0) rfl rfl k) ?_
  obtain ⟨T1, X1, e1, st1⟩ := initO X0 hx hZ hown (hw _ (List.mem_of_getElem? (i := 17) rfl)) (hw _ (List.mem_of_getElem? (i := 18) rfl)) (hw _ (List.mem_of_getElem? (i := 19) rfl)) e0 (g := (mkF m 1 #[.val (.ref a1)] [(.ref a1)])) rfl (by rw [hml]; rfl) rfl (hb hby d9_1) (by decide) (W := 0) (by show 2 * 0 + _ ≤ _; exact Nat.le_of_eq rfl) (by decide)
  refine Goes.via (B := T1.setTop (mkF m 4 #[.val (.ref a1)] [])) st1 ?_
  exact own_out X1 (v := none) (fun _ => rfl) Bd.notSynchronized (fun fs hr => X1.returnOut hx Bd.returns (hb hby d9_4) hr) ⟨rfl, N0, e1⟩ (by decide) (by decide)
theorem d10_0 : decode prog_79_method_2_code 0 = .ok (.aload_n 0, 1) := by decide +kernel
theorem d10_1 : decode prog_79_method_2_code 1 = .ok (.aload_n 3, 1) := by decide +kernel
theorem d10_2 : decode prog_79_method_2_code 2 = .ok (.putfield 9, 3) := by decide +kernel
theorem d10_5 : decode prog_79_method_2_code 5 = .ok (.aload_n 0, 1) := by decide +kernel
theorem d10_6 : decode prog_79_method_2_code 6 = .ok (.lload_n 1, 1) := by decide +kernel
theorem d10_7 : decode prog_79_method_2_code 7 = .ok (.putfield 15, 3) := by decide +kernel
theorem d10_10 : decode prog_79_method_2_code 10 = .ok (.aload_n 0, 1) := by decide +kernel
theorem d10_11 : decode prog_79_method_2_code 11 = .ok (.iconst 0, 1) := by decide +kernel
theorem d10_12 : decode prog_79_method_2_code 12 = .ok (.putfield 19, 3) := by decide +kernel
theorem d10_15 : decode prog_79_method_2_code 15 = .ok (.aload_n 0, 1) := by decide +kernel
theorem d10_16 : decode prog_79_method_2_code 16 = .ok (.iconst (-1), 1) := by decide +kernel
theorem d10_17 : decode prog_79_method_2_code 17 = .ok (.putfield 23, 3) := by decide +kernel
theorem d10_20 : decode prog_79_method_2_code 20 = .ok (.return_, 1) := by decide +kernel
theorem ef_10 (m : MethodId) (x0 : Addr) (x1 : Int64) (x2 : Addr) : entryFrame m #[(.ref x0), (.long x1), (.ref x2)] 4 = mkF m 0 #[.val (.ref x0), .val (.long x1), .second, .val (.ref x2)] [] := by first | (simp [entryFrame, mkF, argsToLocals, Value.category]; done) | rfl
def Q10 (Z : State) (a1 : Addr) (s1 : Int64) (r1 : Addr) (rv : Value) (st : Int64) (nx : Int32) (ta : Int32) (tl : Int32) (ra : Int32) (rl : Int32) (ca : Int32) (cl : Int32) (dl : Int32) (nr : Int32) (h0 : Heap) (n0 : Nat) (v : Option Value) (h : Heap) (L : List Loc) : Prop := v = none ∧ Fr n0 L ∧ Keep h0 h [a1] ∧ own_R Z h a1 (.ref r1) s1 (0 : Int32) (-1 : Int32) tl ra rl ca cl dl nr
set_option maxRecDepth 65536 in
set_option maxHeartbeats 40000000 in
theorem rm10 (l : Launch) (Z : State) (a0 : Array Value) (hw : ∀ d ∈ tables_1, d.before a0 Z = true) (ws : List Jvm.Cond) (a1 : Addr) (s1 : Int64) (r1 : Addr) (rv : Value) (st : Int64) (nx : Int32) (ta : Int32) (tl : Int32) (ra : Int32) (rl : Int32) (ca : Int32) (cl : Int32) (dl : Int32) (nr : Int32) (h0 : Heap) (n0 : Nat) (Z0 : n0 ≤ h0.size) (R0 : own_R Z h0 a1 rv st nx ta tl ra rl ca cl dl nr) (g_a1 : n0 ≤ a1) :
    MetFree l (⟨"com/example/highwater/highwater/sweep/QueueLayout$RunReader", "begin", "(J[B)V"⟩ : MethodName) (head1 (Jvm.Cond.code (⟨"com/example/highwater/highwater/sweep/QueueLayout$RunReader", "begin", "(J[B)V"⟩ : MethodName) prog_79_method_2_code 4 none :: ws) ({ frames := 0, cells := 0, slots := 0, locals := 0 } : Room)) (fun a U => a = #[(.ref a1), (.long s1), (.ref r1)] ∧ Z.Warmed39 U.vm ∧ U.heap = h0) (fun _ _ _ _ _ => True) (fun _ U o U' => ∃ v L, o = .returned v ∧ Q10 Z a1 s1 r1 rv st nx ta tl ra rl ca cl dl nr h0 n0 v U'.heap L ∧ FrameEnd U o U' L ({ frames := 0, cells := 0, slots := 0, locals := 0 } : Room).cells ({ frames := 0, cells := 0, slots := 0, locals := 0 } : Room).slots) := by
  refine MetFree.of_bodySF (plainFor_of_name pn_com_example_highwater_highwater_sweep_QueueLayout_RunReader) hisR ?_
  intro p e s m args below meth c s₁ Bd hml0 hP hK
  obtain ⟨rfl, hZ, hh⟩ := hP
  have hx := Bd.exec
  have hby := Bd.bytes
  have hml : c.maxLocals = 4 := hml0
  have hown : s.vm.findClass "com/example/highwater/highwater/sweep/QueueLayout$RunReader" = some m.cls := findClass_of_methodNamed Bd.named
  have hnm := (name_of_methodNamed Bd.named Bd.method).1
  have X0 : Stand p l e ({ frames := 0, cells := 0, slots := 0, locals := 0 } : Room) s m #[(.ref a1), (.long s1), (.ref r1)] below meth c s₁ [] 0 0 := Stand.of_body Bd
  have e0 : s₁.heap = h0 := by rw [← hh, Bd.state]; rfl
  have N0 := Fr.nil n0
  show Goes p e below (fun s₂ o => ∃ v L, o = .returned v ∧ Q10 Z a1 s1 r1 rv st nx ta tl ra rl ca cl dl nr h0 n0 v s₂.heap L ∧ FrameEnd s o s₂ L ({ frames := 0, cells := 0, slots := 0, locals := 0 } : Room).cells ({ frames := 0, cells := 0, slots := 0, locals := 0 } : Room).slots) (s₁.setTop (entryFrame m #[(.ref a1), (.long s1), (.ref r1)] 4))
  refine Goes.cast (ef_10 m a1 s1 r1) ?_
  have K0 := Keep.refl h0 [a1]
  obtain ⟨Aa1, Fa1_run, Fa1_start, Fa1_next, Fa1_tableAt, Fa1_tableLength, Fa1_rowAt, Fa1_rowLength, Fa1_columnAt, Fa1_columnLength, Fa1_deletion, Fa1_namesRow⟩ := R0
  refine Goes.via (B := s₁.setTop (mkF m 1 #[.val (.ref a1), .val (.long s1), .second, .val (.ref r1)] [(.ref a1)])) (fun t k => XS.aloadN X0.here hx rfl (hb hby d10_0) rfl rfl k) ?_
  refine Goes.via (B := s₁.setTop (mkF m 2 #[.val (.ref a1), .val (.long s1), .second, .val (.ref r1)] [(.ref r1), (.ref a1)])) (fun t k => XS.aloadN X0.here hx rfl (hb hby d10_1) rfl rfl k) ?_
  obtain ⟨T1, h1, X1, e1, W1, st1⟩ := putF X0 hx hZ hown (host := "") (Or.inl (hw _ (List.mem_of_getElem? (i := 25) rfl))) Via.refl e0 Fa1_run Aa1 (Or.inl (hw _ (List.mem_of_getElem? (i := 26) rfl))) (hw _ (List.mem_of_getElem? (i := 12) rfl)) (ty := (.array .byte)) (by decide) rfl rfl (g := (mkF m 2 #[.val (.ref a1), .val (.long s1), .second, .val (.ref r1)] [(.ref r1), (.ref a1)])) rfl rfl (hb hby d10_2)
  have Fa1_start_1 := Fa1_start.other W1 (Or.inr (slot_ne (Or.inl (hw _ (List.mem_of_getElem? (i := 28) rfl))) (Or.inl (hw _ (List.mem_of_getElem? (i := 26) rfl))) (by decide) (t := .long) (by decide) (t' := (.array .byte)) (by decide)))
  have Fa1_next_1 := Fa1_next.other W1 (Or.inr (slot_ne (Or.inl (hw _ (List.mem_of_getElem? (i := 30) rfl))) (Or.inl (hw _ (List.mem_of_getElem? (i := 26) rfl))) (by decide) (t := .int) (by decide) (t' := (.array .byte)) (by decide)))
  have Fa1_tableAt_1 := Fa1_tableAt.other W1 (Or.inr (slot_ne (Or.inl (hw _ (List.mem_of_getElem? (i := 32) rfl))) (Or.inl (hw _ (List.mem_of_getElem? (i := 26) rfl))) (by decide) (t := .int) (by decide) (t' := (.array .byte)) (by decide)))
  have Fa1_tableLength_1 := Fa1_tableLength.other W1 (Or.inr (slot_ne (Or.inl (hw _ (List.mem_of_getElem? (i := 72) rfl))) (Or.inl (hw _ (List.mem_of_getElem? (i := 26) rfl))) (by decide) (t := .int) (by decide) (t' := (.array .byte)) (by decide)))
  have Fa1_rowAt_1 := Fa1_rowAt.other W1 (Or.inr (slot_ne (Or.inl (hw _ (List.mem_of_getElem? (i := 76) rfl))) (Or.inl (hw _ (List.mem_of_getElem? (i := 26) rfl))) (by decide) (t := .int) (by decide) (t' := (.array .byte)) (by decide)))
  have Fa1_rowLength_1 := Fa1_rowLength.other W1 (Or.inr (slot_ne (Or.inl (hw _ (List.mem_of_getElem? (i := 74) rfl))) (Or.inl (hw _ (List.mem_of_getElem? (i := 26) rfl))) (by decide) (t := .int) (by decide) (t' := (.array .byte)) (by decide)))
  have Fa1_columnAt_1 := Fa1_columnAt.other W1 (Or.inr (slot_ne (Or.inl (hw _ (List.mem_of_getElem? (i := 80) rfl))) (Or.inl (hw _ (List.mem_of_getElem? (i := 26) rfl))) (by decide) (t := .int) (by decide) (t' := (.array .byte)) (by decide)))
  have Fa1_columnLength_1 := Fa1_columnLength.other W1 (Or.inr (slot_ne (Or.inl (hw _ (List.mem_of_getElem? (i := 78) rfl))) (Or.inl (hw _ (List.mem_of_getElem? (i := 26) rfl))) (by decide) (t := .int) (by decide) (t' := (.array .byte)) (by decide)))
  have Fa1_deletion_1 := Fa1_deletion.other W1 (Or.inr (slot_ne (Or.inl (hw _ (List.mem_of_getElem? (i := 82) rfl))) (Or.inl (hw _ (List.mem_of_getElem? (i := 26) rfl))) (by decide) (t := .boolean) (by decide) (t' := (.array .byte)) (by decide)))
  have Fa1_namesRow_1 := Fa1_namesRow.other W1 (Or.inr (slot_ne (Or.inl (hw _ (List.mem_of_getElem? (i := 39) rfl))) (Or.inl (hw _ (List.mem_of_getElem? (i := 26) rfl))) (by decide) (t := .boolean) (by decide) (t' := (.array .byte)) (by decide)))
  have Fa1_run_1 := Fa1_run.same W1
  have Ea1_1 := Aa1.wr W1
  have N1 := Fr.snoc X1 N0 g_a1
  have Z1 : n0 ≤ h1.size := Nat.le_trans Z0 (Nat.le_of_eq W1.size.symm)
  have K1 := K0.wr W1 (Or.inl (List.mem_singleton.mpr rfl))
  refine Goes.via (B := T1.setTop (mkF m 5 #[.val (.ref a1), .val (.long s1), .second, .val (.ref r1)] [])) st1 ?_
  refine Goes.via (B := T1.setTop (mkF m 6 #[.val (.ref a1), .val (.long s1), .second, .val (.ref r1)] [(.ref a1)])) (fun t k => XS.aloadN X1.here hx rfl (hb hby d10_5) rfl rfl k) ?_
  refine Goes.via (B := T1.setTop (mkF m 7 #[.val (.ref a1), .val (.long s1), .second, .val (.ref r1)] [(.long s1), (.ref a1)])) (fun t k => XS.lloadN X1.here hx rfl (hb hby d10_6) rfl k) ?_
  obtain ⟨T2, h2, X2, e2, W2, st2⟩ := putF X1 hx hZ hown (host := "") (Or.inl (hw _ (List.mem_of_getElem? (i := 27) rfl))) Via.refl e1 Fa1_start_1 Ea1_1 (Or.inl (hw _ (List.mem_of_getElem? (i := 28) rfl))) (hw _ (List.mem_of_getElem? (i := 12) rfl)) (ty := .long) (by decide) rfl rfl (g := (mkF m 7 #[.val (.ref a1), .val (.long s1), .second, .val (.ref r1)] [(.long s1), (.ref a1)])) rfl rfl (hb hby d10_7)
  have Fa1_run_2 := Fa1_run_1.other W2 (Or.inr (slot_ne (Or.inl (hw _ (List.mem_of_getElem? (i := 26) rfl))) (Or.inl (hw _ (List.mem_of_getElem? (i := 28) rfl))) (by decide) (t := (.array .byte)) (by decide) (t' := .long) (by decide)))
  have Fa1_next_2 := Fa1_next_1.other W2 (Or.inr (slot_ne (Or.inl (hw _ (List.mem_of_getElem? (i := 30) rfl))) (Or.inl (hw _ (List.mem_of_getElem? (i := 28) rfl))) (by decide) (t := .int) (by decide) (t' := .long) (by decide)))
  have Fa1_tableAt_2 := Fa1_tableAt_1.other W2 (Or.inr (slot_ne (Or.inl (hw _ (List.mem_of_getElem? (i := 32) rfl))) (Or.inl (hw _ (List.mem_of_getElem? (i := 28) rfl))) (by decide) (t := .int) (by decide) (t' := .long) (by decide)))
  have Fa1_tableLength_2 := Fa1_tableLength_1.other W2 (Or.inr (slot_ne (Or.inl (hw _ (List.mem_of_getElem? (i := 72) rfl))) (Or.inl (hw _ (List.mem_of_getElem? (i := 28) rfl))) (by decide) (t := .int) (by decide) (t' := .long) (by decide)))
  have Fa1_rowAt_2 := Fa1_rowAt_1.other W2 (Or.inr (slot_ne (Or.inl (hw _ (List.mem_of_getElem? (i := 76) rfl))) (Or.inl (hw _ (List.mem_of_getElem? (i := 28) rfl))) (by decide) (t := .int) (by decide) (t' := .long) (by decide)))
  have Fa1_rowLength_2 := Fa1_rowLength_1.other W2 (Or.inr (slot_ne (Or.inl (hw _ (List.mem_of_getElem? (i := 74) rfl))) (Or.inl (hw _ (List.mem_of_getElem? (i := 28) rfl))) (by decide) (t := .int) (by decide) (t' := .long) (by decide)))
  have Fa1_columnAt_2 := Fa1_columnAt_1.other W2 (Or.inr (slot_ne (Or.inl (hw _ (List.mem_of_getElem? (i := 80) rfl))) (Or.inl (hw _ (List.mem_of_getElem? (i := 28) rfl))) (by decide) (t := .int) (by decide) (t' := .long) (by decide)))
  have Fa1_columnLength_2 := Fa1_columnLength_1.other W2 (Or.inr (slot_ne (Or.inl (hw _ (List.mem_of_getElem? (i := 78) rfl))) (Or.inl (hw _ (List.mem_of_getElem? (i := 28) rfl))) (by decide) (t := .int) (by decide) (t' := .long) (by decide)))
  have Fa1_deletion_2 := Fa1_deletion_1.other W2 (Or.inr (slot_ne (Or.inl (hw _ (List.mem_of_getElem? (i := 82) rfl))) (Or.inl (hw _ (List.mem_of_getElem? (i := 28) rfl))) (by decide) (t := .boolean) (by decide) (t' := .long) (by decide)))
  have Fa1_namesRow_2 := Fa1_namesRow_1.other W2 (Or.inr (slot_ne (Or.inl (hw _ (List.mem_of_getElem? (i := 39) rfl))) (Or.inl (hw _ (List.mem_of_getElem? (i := 28) rfl))) (by decide) (t := .boolean) (by decide) (t' := .long) (by decide)))
  have Fa1_start_2 := Fa1_start_1.same W2
  have Ea1_2 := Ea1_1.wr W2
  have N2 := Fr.snoc X2 N1 g_a1
  have Z2 : n0 ≤ h2.size := Nat.le_trans Z1 (Nat.le_of_eq W2.size.symm)
  have K2 := K1.wr W2 (Or.inl (List.mem_singleton.mpr rfl))
  refine Goes.via (B := T2.setTop (mkF m 10 #[.val (.ref a1), .val (.long s1), .second, .val (.ref r1)] [])) st2 ?_
  refine Goes.via (B := T2.setTop (mkF m 11 #[.val (.ref a1), .val (.long s1), .second, .val (.ref r1)] [(.ref a1)])) (fun t k => XS.aloadN X2.here hx rfl (hb hby d10_10) rfl rfl k) ?_
  refine Goes.via (B := T2.setTop (mkF m 12 #[.val (.ref a1), .val (.long s1), .second, .val (.ref r1)] [(.int (0 : Int32)), (.ref a1)])) (fun t k => XS.iconst X2.here hx rfl (hb hby d10_11) k) ?_
  obtain ⟨T3, h3, X3, e3, W3, st3⟩ := putF X2 hx hZ hown (host := "") (Or.inl (hw _ (List.mem_of_getElem? (i := 29) rfl))) Via.refl e2 Fa1_next_2 Ea1_2 (Or.inl (hw _ (List.mem_of_getElem? (i := 30) rfl))) (hw _ (List.mem_of_getElem? (i := 12) rfl)) (ty := .int) (by decide) rfl rfl (g := (mkF m 12 #[.val (.ref a1), .val (.long s1), .second, .val (.ref r1)] [(.int (0 : Int32)), (.ref a1)])) rfl rfl (hb hby d10_12)
  have Fa1_run_3 := Fa1_run_2.other W3 (Or.inr (slot_ne (Or.inl (hw _ (List.mem_of_getElem? (i := 26) rfl))) (Or.inl (hw _ (List.mem_of_getElem? (i := 30) rfl))) (by decide) (t := (.array .byte)) (by decide) (t' := .int) (by decide)))
  have Fa1_start_3 := Fa1_start_2.other W3 (Or.inr (slot_ne (Or.inl (hw _ (List.mem_of_getElem? (i := 28) rfl))) (Or.inl (hw _ (List.mem_of_getElem? (i := 30) rfl))) (by decide) (t := .long) (by decide) (t' := .int) (by decide)))
  have Fa1_tableAt_3 := Fa1_tableAt_2.other W3 (Or.inr (slot_ne (Or.inl (hw _ (List.mem_of_getElem? (i := 32) rfl))) (Or.inl (hw _ (List.mem_of_getElem? (i := 30) rfl))) (by decide) (t := .int) (by decide) (t' := .int) (by decide)))
  have Fa1_tableLength_3 := Fa1_tableLength_2.other W3 (Or.inr (slot_ne (Or.inl (hw _ (List.mem_of_getElem? (i := 72) rfl))) (Or.inl (hw _ (List.mem_of_getElem? (i := 30) rfl))) (by decide) (t := .int) (by decide) (t' := .int) (by decide)))
  have Fa1_rowAt_3 := Fa1_rowAt_2.other W3 (Or.inr (slot_ne (Or.inl (hw _ (List.mem_of_getElem? (i := 76) rfl))) (Or.inl (hw _ (List.mem_of_getElem? (i := 30) rfl))) (by decide) (t := .int) (by decide) (t' := .int) (by decide)))
  have Fa1_rowLength_3 := Fa1_rowLength_2.other W3 (Or.inr (slot_ne (Or.inl (hw _ (List.mem_of_getElem? (i := 74) rfl))) (Or.inl (hw _ (List.mem_of_getElem? (i := 30) rfl))) (by decide) (t := .int) (by decide) (t' := .int) (by decide)))
  have Fa1_columnAt_3 := Fa1_columnAt_2.other W3 (Or.inr (slot_ne (Or.inl (hw _ (List.mem_of_getElem? (i := 80) rfl))) (Or.inl (hw _ (List.mem_of_getElem? (i := 30) rfl))) (by decide) (t := .int) (by decide) (t' := .int) (by decide)))
  have Fa1_columnLength_3 := Fa1_columnLength_2.other W3 (Or.inr (slot_ne (Or.inl (hw _ (List.mem_of_getElem? (i := 78) rfl))) (Or.inl (hw _ (List.mem_of_getElem? (i := 30) rfl))) (by decide) (t := .int) (by decide) (t' := .int) (by decide)))
  have Fa1_deletion_3 := Fa1_deletion_2.other W3 (Or.inr (slot_ne (Or.inl (hw _ (List.mem_of_getElem? (i := 82) rfl))) (Or.inl (hw _ (List.mem_of_getElem? (i := 30) rfl))) (by decide) (t := .boolean) (by decide) (t' := .int) (by decide)))
  have Fa1_namesRow_3 := Fa1_namesRow_2.other W3 (Or.inr (slot_ne (Or.inl (hw _ (List.mem_of_getElem? (i := 39) rfl))) (Or.inl (hw _ (List.mem_of_getElem? (i := 30) rfl))) (by decide) (t := .boolean) (by decide) (t' := .int) (by decide)))
  have Fa1_next_3 := Fa1_next_2.same W3
  have Ea1_3 := Ea1_2.wr W3
  have N3 := Fr.snoc X3 N2 g_a1
  have Z3 : n0 ≤ h3.size := Nat.le_trans Z2 (Nat.le_of_eq W3.size.symm)
  have K3 := K2.wr W3 (Or.inl (List.mem_singleton.mpr rfl))
  refine Goes.via (B := T3.setTop (mkF m 15 #[.val (.ref a1), .val (.long s1), .second, .val (.ref r1)] [])) st3 ?_
  refine Goes.via (B := T3.setTop (mkF m 16 #[.val (.ref a1), .val (.long s1), .second, .val (.ref r1)] [(.ref a1)])) (fun t k => XS.aloadN X3.here hx rfl (hb hby d10_15) rfl rfl k) ?_
  refine Goes.via (B := T3.setTop (mkF m 17 #[.val (.ref a1), .val (.long s1), .second, .val (.ref r1)] [(.int (-1 : Int32)), (.ref a1)])) (fun t k => XS.iconst X3.here hx rfl (hb hby d10_16) k) ?_
  obtain ⟨T4, h4, X4, e4, W4, st4⟩ := putF X3 hx hZ hown (host := "") (Or.inl (hw _ (List.mem_of_getElem? (i := 31) rfl))) Via.refl e3 Fa1_tableAt_3 Ea1_3 (Or.inl (hw _ (List.mem_of_getElem? (i := 32) rfl))) (hw _ (List.mem_of_getElem? (i := 12) rfl)) (ty := .int) (by decide) rfl rfl (g := (mkF m 17 #[.val (.ref a1), .val (.long s1), .second, .val (.ref r1)] [(.int (-1 : Int32)), (.ref a1)])) rfl rfl (hb hby d10_17)
  have Fa1_run_4 := Fa1_run_3.other W4 (Or.inr (slot_ne (Or.inl (hw _ (List.mem_of_getElem? (i := 26) rfl))) (Or.inl (hw _ (List.mem_of_getElem? (i := 32) rfl))) (by decide) (t := (.array .byte)) (by decide) (t' := .int) (by decide)))
  have Fa1_start_4 := Fa1_start_3.other W4 (Or.inr (slot_ne (Or.inl (hw _ (List.mem_of_getElem? (i := 28) rfl))) (Or.inl (hw _ (List.mem_of_getElem? (i := 32) rfl))) (by decide) (t := .long) (by decide) (t' := .int) (by decide)))
  have Fa1_next_4 := Fa1_next_3.other W4 (Or.inr (slot_ne (Or.inl (hw _ (List.mem_of_getElem? (i := 30) rfl))) (Or.inl (hw _ (List.mem_of_getElem? (i := 32) rfl))) (by decide) (t := .int) (by decide) (t' := .int) (by decide)))
  have Fa1_tableLength_4 := Fa1_tableLength_3.other W4 (Or.inr (slot_ne (Or.inl (hw _ (List.mem_of_getElem? (i := 72) rfl))) (Or.inl (hw _ (List.mem_of_getElem? (i := 32) rfl))) (by decide) (t := .int) (by decide) (t' := .int) (by decide)))
  have Fa1_rowAt_4 := Fa1_rowAt_3.other W4 (Or.inr (slot_ne (Or.inl (hw _ (List.mem_of_getElem? (i := 76) rfl))) (Or.inl (hw _ (List.mem_of_getElem? (i := 32) rfl))) (by decide) (t := .int) (by decide) (t' := .int) (by decide)))
  have Fa1_rowLength_4 := Fa1_rowLength_3.other W4 (Or.inr (slot_ne (Or.inl (hw _ (List.mem_of_getElem? (i := 74) rfl))) (Or.inl (hw _ (List.mem_of_getElem? (i := 32) rfl))) (by decide) (t := .int) (by decide) (t' := .int) (by decide)))
  have Fa1_columnAt_4 := Fa1_columnAt_3.other W4 (Or.inr (slot_ne (Or.inl (hw _ (List.mem_of_getElem? (i := 80) rfl))) (Or.inl (hw _ (List.mem_of_getElem? (i := 32) rfl))) (by decide) (t := .int) (by decide) (t' := .int) (by decide)))
  have Fa1_columnLength_4 := Fa1_columnLength_3.other W4 (Or.inr (slot_ne (Or.inl (hw _ (List.mem_of_getElem? (i := 78) rfl))) (Or.inl (hw _ (List.mem_of_getElem? (i := 32) rfl))) (by decide) (t := .int) (by decide) (t' := .int) (by decide)))
  have Fa1_deletion_4 := Fa1_deletion_3.other W4 (Or.inr (slot_ne (Or.inl (hw _ (List.mem_of_getElem? (i := 82) rfl))) (Or.inl (hw _ (List.mem_of_getElem? (i := 32) rfl))) (by decide) (t := .boolean) (by decide) (t' := .int) (by decide)))
  have Fa1_namesRow_4 := Fa1_namesRow_3.other W4 (Or.inr (slot_ne (Or.inl (hw _ (List.mem_of_getElem? (i := 39) rfl))) (Or.inl (hw _ (List.mem_of_getElem? (i := 32) rfl))) (by decide) (t := .boolean) (by decide) (t' := .int) (by decide)))
  have Fa1_tableAt_4 := Fa1_tableAt_3.same W4
  have Ea1_4 := Ea1_3.wr W4
  have N4 := Fr.snoc X4 N3 g_a1
  have Z4 : n0 ≤ h4.size := Nat.le_trans Z3 (Nat.le_of_eq W4.size.symm)
  have K4 := K3.wr W4 (Or.inl (List.mem_singleton.mpr rfl))
  refine Goes.via (B := T4.setTop (mkF m 20 #[.val (.ref a1), .val (.long s1), .second, .val (.ref r1)] [])) st4 ?_
  exact own_out X4 (v := none) (fun _ => rfl) Bd.notSynchronized (fun fs hr => X4.returnOut hx Bd.returns (hb hby d10_20) hr) ⟨rfl, N4, (by rw [e4]; exact K4), (by rw [e4]; exact ⟨Ea1_4, Fa1_run_4, Fa1_start_4, Fa1_next_4, Fa1_tableAt_4, Fa1_tableLength_4, Fa1_rowAt_4, Fa1_rowLength_4, Fa1_columnAt_4, Fa1_columnLength_4, Fa1_deletion_4, Fa1_namesRow_4⟩)⟩ (by decide) (by decide)
theorem d11_0 : decode prog_79_method_5_code 0 = .ok (.aload_n 0, 1) := by decide +kernel
theorem d11_1 : decode prog_79_method_5_code 1 = .ok (.getfield 9, 3) := by decide +kernel
theorem d11_4 : decode prog_79_method_5_code 4 = .ok (.areturn, 1) := by decide +kernel
theorem ef_11 (m : MethodId) (x0 : Addr) : entryFrame m #[(.ref x0)] 1 = mkF m 0 #[.val (.ref x0)] [] := by first | (simp [entryFrame, mkF, argsToLocals, Value.category]; done) | rfl
def Q11 (Z : State) (a1 : Addr) (r1 : Addr) (h0 : Heap) (n0 : Nat) (v : Option Value) (h : Heap) (L : List Loc) : Prop := v = some (.ref r1) ∧ Fr n0 L ∧ h = h0
set_option maxRecDepth 65536 in
set_option maxHeartbeats 40000000 in
theorem rm11 (l : Launch) (Z : State) (a0 : Array Value) (hw : ∀ d ∈ tables_1, d.before a0 Z = true) (ws : List Jvm.Cond) (a1 : Addr) (r1 : Addr) (h0 : Heap) (n0 : Nat) (Z0 : n0 ≤ h0.size) (F1 : Fld Z h0 a1 "com/example/highwater/highwater/sweep/QueueLayout$RunReader" "run" "[B" (.ref r1)) :
    MetFree l (⟨"com/example/highwater/highwater/sweep/QueueLayout$RunReader", "run", "()[B"⟩ : MethodName) (head1 (Jvm.Cond.code (⟨"com/example/highwater/highwater/sweep/QueueLayout$RunReader", "run", "()[B"⟩ : MethodName) prog_79_method_5_code 1 (some (.array .byte)) :: ws) ({ frames := 0, cells := 0, slots := 0, locals := 0 } : Room)) (fun a U => a = #[(.ref a1)] ∧ Z.Warmed39 U.vm ∧ U.heap = h0) (fun _ _ _ _ _ => True) (fun _ U o U' => ∃ v L, o = .returned v ∧ Q11 Z a1 r1 h0 n0 v U'.heap L ∧ FrameEnd U o U' L ({ frames := 0, cells := 0, slots := 0, locals := 0 } : Room).cells ({ frames := 0, cells := 0, slots := 0, locals := 0 } : Room).slots) := by
  refine MetFree.of_bodySF (plainFor_of_name pn_com_example_highwater_highwater_sweep_QueueLayout_RunReader) hisR ?_
  intro p e s m args below meth c s₁ Bd hml0 hP hK
  obtain ⟨rfl, hZ, hh⟩ := hP
  have hx := Bd.exec
  have hby := Bd.bytes
  have hml : c.maxLocals = 1 := hml0
  have hown : s.vm.findClass "com/example/highwater/highwater/sweep/QueueLayout$RunReader" = some m.cls := findClass_of_methodNamed Bd.named
  have hnm := (name_of_methodNamed Bd.named Bd.method).1
  have X0 : Stand p l e ({ frames := 0, cells := 0, slots := 0, locals := 0 } : Room) s m #[(.ref a1)] below meth c s₁ [] 0 0 := Stand.of_body Bd
  have e0 : s₁.heap = h0 := by rw [← hh, Bd.state]; rfl
  have N0 := Fr.nil n0
  show Goes p e below (fun s₂ o => ∃ v L, o = .returned v ∧ Q11 Z a1 r1 h0 n0 v s₂.heap L ∧ FrameEnd s o s₂ L ({ frames := 0, cells := 0, slots := 0, locals := 0 } : Room).cells ({ frames := 0, cells := 0, slots := 0, locals := 0 } : Room).slots) (s₁.setTop (entryFrame m #[(.ref a1)] 1))
  refine Goes.cast (ef_11 m a1) ?_
  refine Goes.via (B := s₁.setTop (mkF m 1 #[.val (.ref a1)] [(.ref a1)])) (fun t k => XS.aloadN X0.here hx rfl (hb hby d11_0) rfl rfl k) ?_
  obtain ⟨T1, X1, e1, st1⟩ := getF X0 hx hZ hown (host := "") (Or.inl (hw _ (List.mem_of_getElem? (i := 25) rfl))) Via.refl e0 F1 (g := (mkF m 1 #[.val (.ref a1)] [(.ref a1)])) rfl rfl (hb hby d11_1)
  refine Goes.via (B := T1.setTop (mkF m 4 #[.val (.ref a1)] [(.ref r1)])) st1 ?_
  exact own_out X1 (v := some (.ref r1)) (fun h => by rw [Bd.returns] at h; cases h) Bd.notSynchronized (fun fs hr => retOut X1 hx Bd.returns rfl (Or.inr (Or.inr (Or.inr (Or.inr ⟨rfl, rfl, rfl⟩)))) (hb hby d11_4) hr) ⟨rfl, N0, e1⟩ (by decide) (by decide)
theorem d12_0 : decode prog_79_method_8_code 0 = .ok (.aload_n 0, 1) := by decide +kernel
theorem d12_1 : decode prog_79_method_8_code 1 = .ok (.getfield 23, 3) := by decide +kernel
theorem d12_4 : decode prog_79_method_8_code 4 = .ok (.ireturn, 1) := by decide +kernel
theorem ef_12 (m : MethodId) (x0 : Addr) : entryFrame m #[(.ref x0)] 1 = mkF m 0 #[.val (.ref x0)] [] := by first | (simp [entryFrame, mkF, argsToLocals, Value.category]; done) | rfl
def Q12 (Z : State) (a1 : Addr) (x1 : Int32) (h0 : Heap) (n0 : Nat) (v : Option Value) (h : Heap) (L : List Loc) : Prop := v = some (.int x1) ∧ Fr n0 L ∧ h = h0
set_option maxRecDepth 65536 in
set_option maxHeartbeats 40000000 in
theorem rm12 (l : Launch) (Z : State) (a0 : Array Value) (hw : ∀ d ∈ tables_1, d.before a0 Z = true) (ws : List Jvm.Cond) (a1 : Addr) (x1 : Int32) (h0 : Heap) (n0 : Nat) (Z0 : n0 ≤ h0.size) (F1 : Fld Z h0 a1 "com/example/highwater/highwater/sweep/QueueLayout$RunReader" "tableAt" "I" (.int x1)) :
    MetFree l (⟨"com/example/highwater/highwater/sweep/QueueLayout$RunReader", "tableAt", "()I"⟩ : MethodName) (head1 (Jvm.Cond.code (⟨"com/example/highwater/highwater/sweep/QueueLayout$RunReader", "tableAt", "()I"⟩ : MethodName) prog_79_method_8_code 1 (some .int) :: ws) ({ frames := 0, cells := 0, slots := 0, locals := 0 } : Room)) (fun a U => a = #[(.ref a1)] ∧ Z.Warmed39 U.vm ∧ U.heap = h0) (fun _ _ _ _ _ => True) (fun _ U o U' => ∃ v L, o = .returned v ∧ Q12 Z a1 x1 h0 n0 v U'.heap L ∧ FrameEnd U o U' L ({ frames := 0, cells := 0, slots := 0, locals := 0 } : Room).cells ({ frames := 0, cells := 0, slots := 0, locals := 0 } : Room).slots) := by
  refine MetFree.of_bodySF (plainFor_of_name pn_com_example_highwater_highwater_sweep_QueueLayout_RunReader) hisR ?_
  intro p e s m args below meth c s₁ Bd hml0 hP hK
  obtain ⟨rfl, hZ, hh⟩ := hP
  have hx := Bd.exec
  have hby := Bd.bytes
  have hml : c.maxLocals = 1 := hml0
  have hown : s.vm.findClass "com/example/highwater/highwater/sweep/QueueLayout$RunReader" = some m.cls := findClass_of_methodNamed Bd.named
  have hnm := (name_of_methodNamed Bd.named Bd.method).1
  have X0 : Stand p l e ({ frames := 0, cells := 0, slots := 0, locals := 0 } : Room) s m #[(.ref a1)] below meth c s₁ [] 0 0 := Stand.of_body Bd
  have e0 : s₁.heap = h0 := by rw [← hh, Bd.state]; rfl
  have N0 := Fr.nil n0
  show Goes p e below (fun s₂ o => ∃ v L, o = .returned v ∧ Q12 Z a1 x1 h0 n0 v s₂.heap L ∧ FrameEnd s o s₂ L ({ frames := 0, cells := 0, slots := 0, locals := 0 } : Room).cells ({ frames := 0, cells := 0, slots := 0, locals := 0 } : Room).slots) (s₁.setTop (entryFrame m #[(.ref a1)] 1))
  refine Goes.cast (ef_12 m a1) ?_
  refine Goes.via (B := s₁.setTop (mkF m 1 #[.val (.ref a1)] [(.ref a1)])) (fun t k => XS.aloadN X0.here hx rfl (hb hby d12_0) rfl rfl k) ?_
  obtain ⟨T1, X1, e1, st1⟩ := getF X0 hx hZ hown (host := "") (Or.inl (hw _ (List.mem_of_getElem? (i := 31) rfl))) Via.refl e0 F1 (g := (mkF m 1 #[.val (.ref a1)] [(.ref a1)])) rfl rfl (hb hby d12_1)
  refine Goes.via (B := T1.setTop (mkF m 4 #[.val (.ref a1)] [(.int x1)])) st1 ?_
  exact own_out X1 (v := some (.int x1)) (fun h => by rw [Bd.returns] at h; cases h) Bd.notSynchronized (fun fs hr => retOut X1 hx Bd.returns rfl (Or.inl ⟨rfl, Or.inl rfl, _, rfl⟩) (hb hby d12_4) hr) ⟨rfl, N0, e1⟩ (by decide) (by decide)
theorem d13_0 : decode prog_79_method_10_code 0 = .ok (.aload_n 0, 1) := by decide +kernel
theorem d13_1 : decode prog_79_method_10_code 1 = .ok (.getfield 44, 3) := by decide +kernel
theorem d13_4 : decode prog_79_method_10_code 4 = .ok (.ireturn, 1) := by decide +kernel
theorem ef_13 (m : MethodId) (x0 : Addr) : entryFrame m #[(.ref x0)] 1 = mkF m 0 #[.val (.ref x0)] [] := by first | (simp [entryFrame, mkF, argsToLocals, Value.category]; done) | rfl
def Q13 (Z : State) (a1 : Addr) (x1 : Int32) (h0 : Heap) (n0 : Nat) (v : Option Value) (h : Heap) (L : List Loc) : Prop := v = some (.int x1) ∧ Fr n0 L ∧ h = h0
set_option maxRecDepth 65536 in
set_option maxHeartbeats 40000000 in
theorem rm13 (l : Launch) (Z : State) (a0 : Array Value) (hw : ∀ d ∈ tables_1, d.before a0 Z = true) (ws : List Jvm.Cond) (a1 : Addr) (x1 : Int32) (h0 : Heap) (n0 : Nat) (Z0 : n0 ≤ h0.size) (F1 : Fld Z h0 a1 "com/example/highwater/highwater/sweep/QueueLayout$RunReader" "rowAt" "I" (.int x1)) :
    MetFree l (⟨"com/example/highwater/highwater/sweep/QueueLayout$RunReader", "rowAt", "()I"⟩ : MethodName) (head1 (Jvm.Cond.code (⟨"com/example/highwater/highwater/sweep/QueueLayout$RunReader", "rowAt", "()I"⟩ : MethodName) prog_79_method_10_code 1 (some .int) :: ws) ({ frames := 0, cells := 0, slots := 0, locals := 0 } : Room)) (fun a U => a = #[(.ref a1)] ∧ Z.Warmed39 U.vm ∧ U.heap = h0) (fun _ _ _ _ _ => True) (fun _ U o U' => ∃ v L, o = .returned v ∧ Q13 Z a1 x1 h0 n0 v U'.heap L ∧ FrameEnd U o U' L ({ frames := 0, cells := 0, slots := 0, locals := 0 } : Room).cells ({ frames := 0, cells := 0, slots := 0, locals := 0 } : Room).slots) := by
  refine MetFree.of_bodySF (plainFor_of_name pn_com_example_highwater_highwater_sweep_QueueLayout_RunReader) hisR ?_
  intro p e s m args below meth c s₁ Bd hml0 hP hK
  obtain ⟨rfl, hZ, hh⟩ := hP
  have hx := Bd.exec
  have hby := Bd.bytes
  have hml : c.maxLocals = 1 := hml0
  have hown : s.vm.findClass "com/example/highwater/highwater/sweep/QueueLayout$RunReader" = some m.cls := findClass_of_methodNamed Bd.named
  have hnm := (name_of_methodNamed Bd.named Bd.method).1
  have X0 : Stand p l e ({ frames := 0, cells := 0, slots := 0, locals := 0 } : Room) s m #[(.ref a1)] below meth c s₁ [] 0 0 := Stand.of_body Bd
  have e0 : s₁.heap = h0 := by rw [← hh, Bd.state]; rfl
  have N0 := Fr.nil n0
  show Goes p e below (fun s₂ o => ∃ v L, o = .returned v ∧ Q13 Z a1 x1 h0 n0 v s₂.heap L ∧ FrameEnd s o s₂ L ({ frames := 0, cells := 0, slots := 0, locals := 0 } : Room).cells ({ frames := 0, cells := 0, slots := 0, locals := 0 } : Room).slots) (s₁.setTop (entryFrame m #[(.ref a1)] 1))
  refine Goes.cast (ef_13 m a1) ?_
  refine Goes.via (B := s₁.setTop (mkF m 1 #[.val (.ref a1)] [(.ref a1)])) (fun t k => XS.aloadN X0.here hx rfl (hb hby d13_0) rfl rfl k) ?_
  obtain ⟨T1, X1, e1, st1⟩ := getF X0 hx hZ hown (host := "") (Or.inl (hw _ (List.mem_of_getElem? (i := 75) rfl))) Via.refl e0 F1 (g := (mkF m 1 #[.val (.ref a1)] [(.ref a1)])) rfl rfl (hb hby d13_1)
  refine Goes.via (B := T1.setTop (mkF m 4 #[.val (.ref a1)] [(.int x1)])) st1 ?_
  exact own_out X1 (v := some (.int x1)) (fun h => by rw [Bd.returns] at h; cases h) Bd.notSynchronized (fun fs hr => retOut X1 hx Bd.returns rfl (Or.inl ⟨rfl, Or.inl rfl, _, rfl⟩) (hb hby d13_4) hr) ⟨rfl, N0, e1⟩ (by decide) (by decide)
theorem d14_0 : decode prog_79_method_12_code 0 = .ok (.aload_n 0, 1) := by decide +kernel
theorem d14_1 : decode prog_79_method_12_code 1 = .ok (.getfield 50, 3) := by decide +kernel
theorem d14_4 : decode prog_79_method_12_code 4 = .ok (.ireturn, 1) := by decide +kernel
theorem ef_14 (m : MethodId) (x0 : Addr) : entryFrame m #[(.ref x0)] 1 = mkF m 0 #[.val (.ref x0)] [] := by first | (simp [entryFrame, mkF, argsToLocals, Value.category]; done) | rfl
def Q14 (Z : State) (a1 : Addr) (x1 : Int32) (h0 : Heap) (n0 : Nat) (v : Option Value) (h : Heap) (L : List Loc) : Prop := v = some (.int x1) ∧ Fr n0 L ∧ h = h0
set_option maxRecDepth 65536 in
set_option maxHeartbeats 40000000 in
theorem rm14 (l : Launch) (Z : State) (a0 : Array Value) (hw : ∀ d ∈ tables_1, d.before a0 Z = true) (ws : List Jvm.Cond) (a1 : Addr) (x1 : Int32) (h0 : Heap) (n0 : Nat) (Z0 : n0 ≤ h0.size) (F1 : Fld Z h0 a1 "com/example/highwater/highwater/sweep/QueueLayout$RunReader" "columnAt" "I" (.int x1)) :
    MetFree l (⟨"com/example/highwater/highwater/sweep/QueueLayout$RunReader", "columnAt", "()I"⟩ : MethodName) (head1 (Jvm.Cond.code (⟨"com/example/highwater/highwater/sweep/QueueLayout$RunReader", "columnAt", "()I"⟩ : MethodName) prog_79_method_12_code 1 (some .int) :: ws) ({ frames := 0, cells := 0, slots := 0, locals := 0 } : Room)) (fun a U => a = #[(.ref a1)] ∧ Z.Warmed39 U.vm ∧ U.heap = h0) (fun _ _ _ _ _ => True) (fun _ U o U' => ∃ v L, o = .returned v ∧ Q14 Z a1 x1 h0 n0 v U'.heap L ∧ FrameEnd U o U' L ({ frames := 0, cells := 0, slots := 0, locals := 0 } : Room).cells ({ frames := 0, cells := 0, slots := 0, locals := 0 } : Room).slots) := by
  refine MetFree.of_bodySF (plainFor_of_name pn_com_example_highwater_highwater_sweep_QueueLayout_RunReader) hisR ?_
  intro p e s m args below meth c s₁ Bd hml0 hP hK
  obtain ⟨rfl, hZ, hh⟩ := hP
  have hx := Bd.exec
  have hby := Bd.bytes
  have hml : c.maxLocals = 1 := hml0
  have hown : s.vm.findClass "com/example/highwater/highwater/sweep/QueueLayout$RunReader" = some m.cls := findClass_of_methodNamed Bd.named
  have hnm := (name_of_methodNamed Bd.named Bd.method).1
  have X0 : Stand p l e ({ frames := 0, cells := 0, slots := 0, locals := 0 } : Room) s m #[(.ref a1)] below meth c s₁ [] 0 0 := Stand.of_body Bd
  have e0 : s₁.heap = h0 := by rw [← hh, Bd.state]; rfl
  have N0 := Fr.nil n0
  show Goes p e below (fun s₂ o => ∃ v L, o = .returned v ∧ Q14 Z a1 x1 h0 n0 v s₂.heap L ∧ FrameEnd s o s₂ L ({ frames := 0, cells := 0, slots := 0, locals := 0 } : Room).cells ({ frames := 0, cells := 0, slots := 0, locals := 0 } : Room).slots) (s₁.setTop (entryFrame m #[(.ref a1)] 1))
  refine Goes.cast (ef_14 m a1) ?_
  refine Goes.via (B := s₁.setTop (mkF m 1 #[.val (.ref a1)] [(.ref a1)])) (fun t k => XS.aloadN X0.here hx rfl (hb hby d14_0) rfl rfl k) ?_
  obtain ⟨T1, X1, e1, st1⟩ := getF X0 hx hZ hown (host := "") (Or.inl (hw _ (List.mem_of_getElem? (i := 79) rfl))) Via.refl e0 F1 (g := (mkF m 1 #[.val (.ref a1)] [(.ref a1)])) rfl rfl (hb hby d14_1)
  refine Goes.via (B := T1.setTop (mkF m 4 #[.val (.ref a1)] [(.int x1)])) st1 ?_
  exact own_out X1 (v := some (.int x1)) (fun h => by rw [Bd.returns] at h; cases h) Bd.notSynchronized (fun fs hr => retOut X1 hx Bd.returns rfl (Or.inl ⟨rfl, Or.inl rfl, _, rfl⟩) (hb hby d14_4) hr) ⟨rfl, N0, e1⟩ (by decide) (by decide)
theorem d15_0 : decode prog_79_method_7_code 0 = .ok (.aload_n 0, 1) := by decide +kernel
theorem d15_1 : decode prog_79_method_7_code 1 = .ok (.getfield 53, 3) := by decide +kernel
theorem d15_4 : decode prog_79_method_7_code 4 = .ok (.ireturn, 1) := by decide +kernel
theorem ef_15 (m : MethodId) (x0 : Addr) : entryFrame m #[(.ref x0)] 1 = mkF m 0 #[.val (.ref x0)] [] := by first | (simp [entryFrame, mkF, argsToLocals, Value.category]; done) | rfl
def Q15 (Z : State) (a1 : Addr) (x1 : Int32) (h0 : Heap) (n0 : Nat) (v : Option Value) (h : Heap) (L : List Loc) : Prop := v = some (.int x1) ∧ Fr n0 L ∧ h = h0
set_option maxRecDepth 65536 in
set_option maxHeartbeats 40000000 in
theorem rm15 (l : Launch) (Z : State) (a0 : Array Value) (hw : ∀ d ∈ tables_1, d.before a0 Z = true) (ws : List Jvm.Cond) (a1 : Addr) (x1 : Int32) (h0 : Heap) (n0 : Nat) (Z0 : n0 ≤ h0.size) (F1 : Fld Z h0 a1 "com/example/highwater/highwater/sweep/QueueLayout$RunReader" "deletion" "Z" (.int x1)) (h01 : x1 = 0 ∨ x1 = 1) :
    MetFree l (⟨"com/example/highwater/highwater/sweep/QueueLayout$RunReader", "deletion", "()Z"⟩ : MethodName) (head1 (Jvm.Cond.code (⟨"com/example/highwater/highwater/sweep/QueueLayout$RunReader", "deletion", "()Z"⟩ : MethodName) prog_79_method_7_code 1 (some .boolean) :: ws) ({ frames := 0, cells := 0, slots := 0, locals := 0 } : Room)) (fun a U => a = #[(.ref a1)] ∧ Z.Warmed39 U.vm ∧ U.heap = h0) (fun _ _ _ _ _ => True) (fun _ U o U' => ∃ v L, o = .returned v ∧ Q15 Z a1 x1 h0 n0 v U'.heap L ∧ FrameEnd U o U' L ({ frames := 0, cells := 0, slots := 0, locals := 0 } : Room).cells ({ frames := 0, cells := 0, slots := 0, locals := 0 } : Room).slots) := by
  refine MetFree.of_bodySF (plainFor_of_name pn_com_example_highwater_highwater_sweep_QueueLayout_RunReader) hisR ?_
  intro p e s m args below meth c s₁ Bd hml0 hP hK
  obtain ⟨rfl, hZ, hh⟩ := hP
  have hx := Bd.exec
  have hby := Bd.bytes
  have hml : c.maxLocals = 1 := hml0
  have hown : s.vm.findClass "com/example/highwater/highwater/sweep/QueueLayout$RunReader" = some m.cls := findClass_of_methodNamed Bd.named
  have hnm := (name_of_methodNamed Bd.named Bd.method).1
  have X0 : Stand p l e ({ frames := 0, cells := 0, slots := 0, locals := 0 } : Room) s m #[(.ref a1)] below meth c s₁ [] 0 0 := Stand.of_body Bd
  have e0 : s₁.heap = h0 := by rw [← hh, Bd.state]; rfl
  have N0 := Fr.nil n0
  show Goes p e below (fun s₂ o => ∃ v L, o = .returned v ∧ Q15 Z a1 x1 h0 n0 v s₂.heap L ∧ FrameEnd s o s₂ L ({ frames := 0, cells := 0, slots := 0, locals := 0 } : Room).cells ({ frames := 0, cells := 0, slots := 0, locals := 0 } : Room).slots) (s₁.setTop (entryFrame m #[(.ref a1)] 1))
  refine Goes.cast (ef_15 m a1) ?_
  refine Goes.via (B := s₁.setTop (mkF m 1 #[.val (.ref a1)] [(.ref a1)])) (fun t k => XS.aloadN X0.here hx rfl (hb hby d15_0) rfl rfl k) ?_
  obtain ⟨T1, X1, e1, st1⟩ := getF X0 hx hZ hown (host := "") (Or.inl (hw _ (List.mem_of_getElem? (i := 81) rfl))) Via.refl e0 F1 (g := (mkF m 1 #[.val (.ref a1)] [(.ref a1)])) rfl rfl (hb hby d15_1)
  refine Goes.via (B := T1.setTop (mkF m 4 #[.val (.ref a1)] [(.int x1)])) st1 ?_
  exact own_out X1 (v := some (.int x1)) (fun h => by rw [Bd.returns] at h; cases h) Bd.notSynchronized (fun fs hr => retOut X1 hx Bd.returns (by rcases h01 with rfl | rfl <;> decide +kernel) (Or.inl ⟨rfl, Or.inr (Or.inl rfl), _, rfl⟩) (hb hby d15_4) hr) ⟨rfl, N0, e1⟩ (by decide) (by decide)
def own_ta (p1 : Int32) : Int32 := (p1 &&& (3 : Int32))
theorem d16_0 : decode method_2_code 0 = .ok (.iload_n 0, 1) := by decide +kernel
theorem d16_1 : decode method_2_code 1 = .ok (.iconst 3, 1) := by decide +kernel
theorem d16_2 : decode method_2_code 2 = .ok (.iand, 1) := by decide +kernel
theorem d16_3 : decode method_2_code 3 = .ok (.ireturn, 1) := by decide +kernel
theorem pn_com_example_highwater_highwater_sweep_QueueLayoutBeginPinLaw : plainName "com/example/highwater/highwater/sweep/QueueLayoutBeginPinLaw" = true := by first | (simp [plainName, overriddenIn]; done) | decide +kernel
theorem ef_16 (m : MethodId) (x0 : Int32) : entryFrame m #[(.int x0)] 1 = mkF m 0 #[.val (.int x0)] [] := by first | (simp [entryFrame, mkF, argsToLocals, Value.category]; done) | rfl
def Q16 (Z : State) (p1 : Int32) (h0 : Heap) (n0 : Nat) (v : Option Value) (h : Heap) (L : List Loc) : Prop := v = some (.int (own_ta p1)) ∧ Fr n0 L ∧ h = h0
set_option maxRecDepth 65536 in
set_option maxHeartbeats 40000000 in
theorem rm16 (l : Launch) (Z : State) (a0 : Array Value) (hw : ∀ d ∈ tables_1, d.before a0 Z = true) (ws : List Jvm.Cond) (p1 : Int32) (h0 : Heap) (n0 : Nat) (Z0 : n0 ≤ h0.size)  :
    MetFree l (⟨"com/example/highwater/highwater/sweep/QueueLayoutBeginPinLaw", "tableLen", "(I)I"⟩ : MethodName) (head1 (Jvm.Cond.code (⟨"com/example/highwater/highwater/sweep/QueueLayoutBeginPinLaw", "tableLen", "(I)I"⟩ : MethodName) method_2_code 1 (some .int) :: ws) ({ frames := 0, cells := 0, slots := 0, locals := 0 } : Room)) (fun a U => a = #[(.int p1)] ∧ Z.Warmed39 U.vm ∧ U.heap = h0) (fun _ _ _ _ _ => True) (fun _ U o U' => ∃ v L, o = .returned v ∧ Q16 Z p1 h0 n0 v U'.heap L ∧ FrameEnd U o U' L ({ frames := 0, cells := 0, slots := 0, locals := 0 } : Room).cells ({ frames := 0, cells := 0, slots := 0, locals := 0 } : Room).slots) := by
  refine MetFree.of_bodySF (plainFor_of_name pn_com_example_highwater_highwater_sweep_QueueLayoutBeginPinLaw) hisR ?_
  intro p e s m args below meth c s₁ Bd hml0 hP hK
  obtain ⟨rfl, hZ, hh⟩ := hP
  have hx := Bd.exec
  have hby := Bd.bytes
  have hml : c.maxLocals = 1 := hml0
  have hown : s.vm.findClass "com/example/highwater/highwater/sweep/QueueLayoutBeginPinLaw" = some m.cls := findClass_of_methodNamed Bd.named
  have hnm := (name_of_methodNamed Bd.named Bd.method).1
  have X0 : Stand p l e ({ frames := 0, cells := 0, slots := 0, locals := 0 } : Room) s m #[(.int p1)] below meth c s₁ [] 0 0 := Stand.of_body Bd
  have e0 : s₁.heap = h0 := by rw [← hh, Bd.state]; rfl
  have N0 := Fr.nil n0
  show Goes p e below (fun s₂ o => ∃ v L, o = .returned v ∧ Q16 Z p1 h0 n0 v s₂.heap L ∧ FrameEnd s o s₂ L ({ frames := 0, cells := 0, slots := 0, locals := 0 } : Room).cells ({ frames := 0, cells := 0, slots := 0, locals := 0 } : Room).slots) (s₁.setTop (entryFrame m #[(.int p1)] 1))
  refine Goes.cast (ef_16 m p1) ?_
  refine Goes.via (B := s₁.setTop (mkF m 1 #[.val (.int p1)] [(.int p1)])) (fun t k => XS.iloadN X0.here hx rfl (hb hby d16_0) rfl k) ?_
  refine Goes.via (B := s₁.setTop (mkF m 2 #[.val (.int p1)] [(.int (3 : Int32)), (.int p1)])) (fun t k => XS.iconst X0.here hx rfl (hb hby d16_1) k) ?_
  refine Goes.via (B := s₁.setTop (mkF m 3 #[.val (.int p1)] [(.int (p1 &&& (3 : Int32)))])) (fun t k => XS.iand X0.here hx rfl (hb hby d16_2) rfl k) ?_
  have hv : own_ta p1 = (p1 &&& (3 : Int32)) := by rw [own_ta]
  exact own_out X0 (v := some (.int (p1 &&& (3 : Int32)))) (fun h => by rw [Bd.returns] at h; cases h) Bd.notSynchronized (fun fs hr => retOut X0 hx Bd.returns rfl (Or.inl ⟨rfl, Or.inl rfl, _, rfl⟩) (hb hby d16_3) hr) ⟨by rw [hv], N0, e0⟩ (by decide) (by decide)
theorem own_nz (p1 : Int32) : ¬ ((4 : Int32) - (p1 &&& (3 : Int32))) = 0 := by
  have a := c_and p1 3 (by decide)
  have b := c_isub 4 (p1 &&& (3 : Int32))
  rw [← Int32.toInt_inj]
  simp only [Int32.reduceToInt] at *
  omega
def own_tr (p1 : Int32) : Int32 := ((((p1.toUInt32 >>> ((2 : Int32) &&& 31).toUInt32).toInt32) &&& (3 : Int32)) % ((4 : Int32) - (p1 &&& (3 : Int32))))
theorem d17_0 : decode method_3_code 0 = .ok (.iload_n 0, 1) := by decide +kernel
theorem d17_1 : decode method_3_code 1 = .ok (.iconst 3, 1) := by decide +kernel
theorem d17_2 : decode method_3_code 2 = .ok (.iand, 1) := by decide +kernel
theorem d17_3 : decode method_3_code 3 = .ok (.istore_n 1, 1) := by decide +kernel
theorem d17_4 : decode method_3_code 4 = .ok (.iload_n 0, 1) := by decide +kernel
theorem d17_5 : decode method_3_code 5 = .ok (.iconst 2, 1) := by decide +kernel
theorem d17_6 : decode method_3_code 6 = .ok (.iushr, 1) := by decide +kernel
theorem d17_7 : decode method_3_code 7 = .ok (.iconst 3, 1) := by decide +kernel
theorem d17_8 : decode method_3_code 8 = .ok (.iand, 1) := by decide +kernel
theorem d17_9 : decode method_3_code 9 = .ok (.iconst 4, 1) := by decide +kernel
theorem d17_10 : decode method_3_code 10 = .ok (.iload_n 1, 1) := by decide +kernel
theorem d17_11 : decode method_3_code 11 = .ok (.isub, 1) := by decide +kernel
theorem d17_12 : decode method_3_code 12 = .ok (.irem, 1) := by decide +kernel
theorem d17_13 : decode method_3_code 13 = .ok (.ireturn, 1) := by decide +kernel
theorem ef_17 (m : MethodId) (x0 : Int32) : entryFrame m #[(.int x0)] 2 = mkF m 0 #[.val (.int x0), .unset] [] := by first | (simp [entryFrame, mkF, argsToLocals, Value.category]; done) | rfl
def Q17 (Z : State) (p1 : Int32) (h0 : Heap) (n0 : Nat) (v : Option Value) (h : Heap) (L : List Loc) : Prop := v = some (.int (own_tr p1)) ∧ Fr n0 L ∧ h = h0
set_option maxRecDepth 65536 in
set_option maxHeartbeats 40000000 in
theorem rm17 (l : Launch) (Z : State) (a0 : Array Value) (hw : ∀ d ∈ tables_1, d.before a0 Z = true) (ws : List Jvm.Cond) (p1 : Int32) (h0 : Heap) (n0 : Nat) (Z0 : n0 ≤ h0.size)  :
    MetFree l (⟨"com/example/highwater/highwater/sweep/QueueLayoutBeginPinLaw", "rowLen", "(I)I"⟩ : MethodName) (head1 (Jvm.Cond.code (⟨"com/example/highwater/highwater/sweep/QueueLayoutBeginPinLaw", "rowLen", "(I)I"⟩ : MethodName) method_3_code 2 (some .int) :: ws) ({ frames := 0, cells := 0, slots := 0, locals := 0 } : Room)) (fun a U => a = #[(.int p1)] ∧ Z.Warmed39 U.vm ∧ U.heap = h0) (fun _ _ _ _ _ => True) (fun _ U o U' => ∃ v L, o = .returned v ∧ Q17 Z p1 h0 n0 v U'.heap L ∧ FrameEnd U o U' L ({ frames := 0, cells := 0, slots := 0, locals := 0 } : Room).cells ({ frames := 0, cells := 0, slots := 0, locals := 0 } : Room).slots) := by
  refine MetFree.of_bodySF (plainFor_of_name pn_com_example_highwater_highwater_sweep_QueueLayoutBeginPinLaw) hisR ?_
  intro p e s m args below meth c s₁ Bd hml0 hP hK
  obtain ⟨rfl, hZ, hh⟩ := hP
  have hx := Bd.exec
  have hby := Bd.bytes
  have hml : c.maxLocals = 2 := hml0
  have hown : s.vm.findClass "com/example/highwater/highwater/sweep/QueueLayoutBeginPinLaw" = some m.cls := findClass_of_methodNamed Bd.named
  have hnm := (name_of_methodNamed Bd.named Bd.method).1
  have X0 : Stand p l e ({ frames := 0, cells := 0, slots := 0, locals := 0 } : Room) s m #[(.int p1)] below meth c s₁ [] 0 0 := Stand.of_body Bd
  have e0 : s₁.heap = h0 := by rw [← hh, Bd.state]; rfl
  have N0 := Fr.nil n0
  show Goes p e below (fun s₂ o => ∃ v L, o = .returned v ∧ Q17 Z p1 h0 n0 v s₂.heap L ∧ FrameEnd s o s₂ L ({ frames := 0, cells := 0, slots := 0, locals := 0 } : Room).cells ({ frames := 0, cells := 0, slots := 0, locals := 0 } : Room).slots) (s₁.setTop (entryFrame m #[(.int p1)] 2))
  refine Goes.cast (ef_17 m p1) ?_
  refine Goes.via (B := s₁.setTop (mkF m 1 #[.val (.int p1), .unset] [(.int p1)])) (fun t k => XS.iloadN X0.here hx rfl (hb hby d17_0) rfl k) ?_
  refine Goes.via (B := s₁.setTop (mkF m 2 #[.val (.int p1), .unset] [(.int (3 : Int32)), (.int p1)])) (fun t k => XS.iconst X0.here hx rfl (hb hby d17_1) k) ?_
  refine Goes.via (B := s₁.setTop (mkF m 3 #[.val (.int p1), .unset] [(.int (p1 &&& (3 : Int32)))])) (fun t k => XS.iand X0.here hx rfl (hb hby d17_2) rfl k) ?_
  refine Goes.via (B := s₁.setTop (mkF m 4 #[.val (.int p1), .val (.int (p1 &&& (3 : Int32)))] [])) (fun t k => XS.istoreN X0.here hx rfl (hb hby d17_3) rfl (l' := #[.val (.int p1), .val (.int (p1 &&& (3 : Int32)))]) rfl k) ?_
  refine Goes.via (B := s₁.setTop (mkF m 5 #[.val (.int p1), .val (.int (p1 &&& (3 : Int32)))] [(.int p1)])) (fun t k => XS.iloadN X0.here hx rfl (hb hby d17_4) rfl k) ?_
  refine Goes.via (B := s₁.setTop (mkF m 6 #[.val (.int p1), .val (.int (p1 &&& (3 : Int32)))] [(.int (2 : Int32)), (.int p1)])) (fun t k => XS.iconst X0.here hx rfl (hb hby d17_5) k) ?_
  refine Goes.via (B := s₁.setTop (mkF m 7 #[.val (.int p1), .val (.int (p1 &&& (3 : Int32)))] [(.int ((p1.toUInt32 >>> ((2 : Int32) &&& 31).toUInt32).toInt32))])) (fun t k => XS.iushr X0.here hx rfl (hb hby d17_6) rfl k) ?_
  refine Goes.via (B := s₁.setTop (mkF m 8 #[.val (.int p1), .val (.int (p1 &&& (3 : Int32)))] [(.int (3 : Int32)), (.int ((p1.toUInt32 >>> ((2 : Int32) &&& 31).toUInt32).toInt32))])) (fun t k => XS.iconst X0.here hx rfl (hb hby d17_7) k) ?_
  refine Goes.via (B := s₁.setTop (mkF m 9 #[.val (.int p1), .val (.int (p1 &&& (3 : Int32)))] [(.int (((p1.toUInt32 >>> ((2 : Int32) &&& 31).toUInt32).toInt32) &&& (3 : Int32)))])) (fun t k => XS.iand X0.here hx rfl (hb hby d17_8) rfl k) ?_
  refine Goes.via (B := s₁.setTop (mkF m 10 #[.val (.int p1), .val (.int (p1 &&& (3 : Int32)))] [(.int (4 : Int32)), (.int (((p1.toUInt32 >>> ((2 : Int32) &&& 31).toUInt32).toInt32) &&& (3 : Int32)))])) (fun t k => XS.iconst X0.here hx rfl (hb hby d17_9) k) ?_
  refine Goes.via (B := s₁.setTop (mkF m 11 #[.val (.int p1), .val (.int (p1 &&& (3 : Int32)))] [(.int (p1 &&& (3 : Int32))), (.int (4 : Int32)), (.int (((p1.toUInt32 >>> ((2 : Int32) &&& 31).toUInt32).toInt32) &&& (3 : Int32)))])) (fun t k => XS.iloadN X0.here hx rfl (hb hby d17_10) rfl k) ?_
  refine Goes.via (B := s₁.setTop (mkF m 12 #[.val (.int p1), .val (.int (p1 &&& (3 : Int32)))] [(.int ((4 : Int32) - (p1 &&& (3 : Int32)))), (.int (((p1.toUInt32 >>> ((2 : Int32) &&& 31).toUInt32).toInt32) &&& (3 : Int32)))])) (fun t k => XS.isub X0.here hx rfl (hb hby d17_11) rfl k) ?_
  refine Goes.via (B := s₁.setTop (mkF m 13 #[.val (.int p1), .val (.int (p1 &&& (3 : Int32)))] [(.int ((((p1.toUInt32 >>> ((2 : Int32) &&& 31).toUInt32).toInt32) &&& (3 : Int32)) % ((4 : Int32) - (p1 &&& (3 : Int32)))))])) (fun t k => iremM X0 hx rfl (hb hby d17_12) rfl (own_nz p1) k) ?_
  have hv : own_tr p1 = ((((p1.toUInt32 >>> ((2 : Int32) &&& 31).toUInt32).toInt32) &&& (3 : Int32)) % ((4 : Int32) - (p1 &&& (3 : Int32)))) := by rw [own_tr]
  exact own_out X0 (v := some (.int ((((p1.toUInt32 >>> ((2 : Int32) &&& 31).toUInt32).toInt32) &&& (3 : Int32)) % ((4 : Int32) - (p1 &&& (3 : Int32)))))) (fun h => by rw [Bd.returns] at h; cases h) Bd.notSynchronized (fun fs hr => retOut X0 hx Bd.returns rfl (Or.inl ⟨rfl, Or.inl rfl, _, rfl⟩) (hb hby d17_13) hr) ⟨by rw [hv], N0, e0⟩ (by decide) (by decide)
def own_tc (p : Int32) : Int32 := ((3 : Int32) - own_ta p) - own_tr p
theorem own_kd01 (p : Int32) : own_kd p = (0 : Int32) ∨ own_kd p = (1 : Int32) := by
  have a := c_and ((p.toUInt32 >>> ((4 : Int32) &&& 31).toUInt32).toInt32) 1 (by decide)
  unfold own_kd
  simp only [← Int32.toInt_inj, Int32.reduceToInt] at *
  omega
theorem own_tab (p : Int32) : 0 ≤ (own_ta p).toInt ∧ (own_ta p).toInt ≤ 3 ∧ 0 ≤ (own_tr p).toInt ∧ (own_ta p).toInt + (own_tr p).toInt ≤ 3 := by
  have a := c_and p 3 (by decide)
  have b := c_isub 4 (p &&& (3 : Int32))
  have r := rng32 ((4 : Int32) - (p &&& (3 : Int32)))
  have d := c_and ((p.toUInt32 >>> ((2 : Int32) &&& 31).toUInt32).toInt32) 3 (by decide)
  have q := (c_iremV (((p.toUInt32 >>> ((2 : Int32) &&& 31).toUInt32).toInt32) &&& (3 : Int32)) ((4 : Int32) - (p &&& (3 : Int32)))).1 d.1
  unfold own_ta own_tr
  simp only [Int32.reduceToInt] at *
  have q2 := q (by omega)
  omega
theorem own_abcOf (p : Int32) : own_abc (own_ta p) (own_tr p) (own_tc p) := by
  have a := own_tab p
  have b := c_isub 3 (own_ta p)
  have c := c_isub ((3 : Int32) - own_ta p) (own_tr p)
  have r := rng32 ((3 : Int32) - own_ta p)
  have r2 := rng32 (((3 : Int32) - own_ta p) - own_tr p)
  unfold own_abc own_tc
  simp only [Int32.reduceToInt] at *
  omega
theorem own_ab {p a b : Int32} (ha : (own_ta p) = a) (hb : (own_tr p) = b) : (a = (0 : Int32) ∧ b = (0 : Int32)) ∨ (a = (0 : Int32) ∧ b = (1 : Int32)) ∨ (a = (0 : Int32) ∧ b = (2 : Int32)) ∨ (a = (0 : Int32) ∧ b = (3 : Int32)) ∨ (a = (1 : Int32) ∧ b = (0 : Int32)) ∨ (a = (1 : Int32) ∧ b = (1 : Int32)) ∨ (a = (1 : Int32) ∧ b = (2 : Int32)) ∨ (a = (2 : Int32) ∧ b = (0 : Int32)) ∨ (a = (2 : Int32) ∧ b = (1 : Int32)) ∨ (a = (3 : Int32) ∧ b = (0 : Int32)) := by
  have t := own_tab p
  rw [ha, hb] at t
  simp only [← Int32.toInt_inj, Int32.reduceToInt]
  omega
theorem d18_0 : decode method_4_code 0 = .ok (.iload_n 2, 1) := by decide +kernel
theorem d18_1 : decode method_4_code 1 = .ok (.invokestatic 7, 3) := by decide +kernel
theorem d18_4 : decode method_4_code 4 = .ok (.istore_n 3, 1) := by decide +kernel
theorem d18_5 : decode method_4_code 5 = .ok (.iload_n 2, 1) := by decide +kernel
theorem d18_6 : decode method_4_code 6 = .ok (.invokestatic 13, 3) := by decide +kernel
theorem d18_9 : decode method_4_code 9 = .ok (.istore 4, 2) := by decide +kernel
theorem d18_11 : decode method_4_code 11 = .ok (.iconst 3, 1) := by decide +kernel
theorem d18_12 : decode method_4_code 12 = .ok (.iload_n 3, 1) := by decide +kernel
theorem d18_13 : decode method_4_code 13 = .ok (.isub, 1) := by decide +kernel
theorem d18_14 : decode method_4_code 14 = .ok (.iload 4, 2) := by decide +kernel
theorem d18_16 : decode method_4_code 16 = .ok (.isub, 1) := by decide +kernel
theorem d18_17 : decode method_4_code 17 = .ok (.istore 5, 2) := by decide +kernel
theorem d18_19 : decode method_4_code 19 = .ok (.bipush 7, 2) := by decide +kernel
theorem d18_21 : decode method_4_code 21 = .ok (.newarray .byte, 2) := by decide +kernel
theorem d18_23 : decode method_4_code 23 = .ok (.astore 6, 2) := by decide +kernel
theorem d18_25 : decode method_4_code 25 = .ok (.aload 6, 2) := by decide +kernel
theorem d18_27 : decode method_4_code 27 = .ok (.iconst 0, 1) := by decide +kernel
theorem d18_28 : decode method_4_code 28 = .ok (.lload_n 0, 1) := by decide +kernel
theorem d18_29 : decode method_4_code 29 = .ok (.l2i, 1) := by decide +kernel
theorem d18_30 : decode method_4_code 30 = .ok (.i2b, 1) := by decide +kernel
theorem d18_31 : decode method_4_code 31 = .ok (.bastore, 1) := by decide +kernel
theorem d18_32 : decode method_4_code 32 = .ok (.aload 6, 2) := by decide +kernel
theorem d18_34 : decode method_4_code 34 = .ok (.iconst 1, 1) := by decide +kernel
theorem d18_35 : decode method_4_code 35 = .ok (.lload_n 0, 1) := by decide +kernel
theorem d18_36 : decode method_4_code 36 = .ok (.bipush 8, 2) := by decide +kernel
theorem d18_38 : decode method_4_code 38 = .ok (.lushr, 1) := by decide +kernel
theorem d18_39 : decode method_4_code 39 = .ok (.l2i, 1) := by decide +kernel
theorem d18_40 : decode method_4_code 40 = .ok (.i2b, 1) := by decide +kernel
theorem d18_41 : decode method_4_code 41 = .ok (.bastore, 1) := by decide +kernel
theorem d18_42 : decode method_4_code 42 = .ok (.aload 6, 2) := by decide +kernel
theorem d18_44 : decode method_4_code 44 = .ok (.iconst 2, 1) := by decide +kernel
theorem d18_45 : decode method_4_code 45 = .ok (.lload_n 0, 1) := by decide +kernel
theorem d18_46 : decode method_4_code 46 = .ok (.bipush 16, 2) := by decide +kernel
theorem d18_48 : decode method_4_code 48 = .ok (.lushr, 1) := by decide +kernel
theorem d18_49 : decode method_4_code 49 = .ok (.l2i, 1) := by decide +kernel
theorem d18_50 : decode method_4_code 50 = .ok (.i2b, 1) := by decide +kernel
theorem d18_51 : decode method_4_code 51 = .ok (.bastore, 1) := by decide +kernel
theorem d18_52 : decode method_4_code 52 = .ok (.aload 6, 2) := by decide +kernel
theorem d18_54 : decode method_4_code 54 = .ok (.iconst 3, 1) := by decide +kernel
theorem d18_55 : decode method_4_code 55 = .ok (.lload_n 0, 1) := by decide +kernel
theorem d18_56 : decode method_4_code 56 = .ok (.bipush 24, 2) := by decide +kernel
theorem d18_58 : decode method_4_code 58 = .ok (.lushr, 1) := by decide +kernel
theorem d18_59 : decode method_4_code 59 = .ok (.l2i, 1) := by decide +kernel
theorem d18_60 : decode method_4_code 60 = .ok (.i2b, 1) := by decide +kernel
theorem d18_61 : decode method_4_code 61 = .ok (.bastore, 1) := by decide +kernel
theorem d18_62 : decode method_4_code 62 = .ok (.aload 6, 2) := by decide +kernel
theorem d18_64 : decode method_4_code 64 = .ok (.iconst 4, 1) := by decide +kernel
theorem d18_65 : decode method_4_code 65 = .ok (.lload_n 0, 1) := by decide +kernel
theorem d18_66 : decode method_4_code 66 = .ok (.bipush 32, 2) := by decide +kernel
theorem d18_68 : decode method_4_code 68 = .ok (.lushr, 1) := by decide +kernel
theorem d18_69 : decode method_4_code 69 = .ok (.l2i, 1) := by decide +kernel
theorem d18_70 : decode method_4_code 70 = .ok (.i2b, 1) := by decide +kernel
theorem d18_71 : decode method_4_code 71 = .ok (.bastore, 1) := by decide +kernel
theorem d18_72 : decode method_4_code 72 = .ok (.aload 6, 2) := by decide +kernel
theorem d18_74 : decode method_4_code 74 = .ok (.iconst 5, 1) := by decide +kernel
theorem d18_75 : decode method_4_code 75 = .ok (.lload_n 0, 1) := by decide +kernel
theorem d18_76 : decode method_4_code 76 = .ok (.bipush 40, 2) := by decide +kernel
theorem d18_78 : decode method_4_code 78 = .ok (.lushr, 1) := by decide +kernel
theorem d18_79 : decode method_4_code 79 = .ok (.l2i, 1) := by decide +kernel
theorem d18_80 : decode method_4_code 80 = .ok (.i2b, 1) := by decide +kernel
theorem d18_81 : decode method_4_code 81 = .ok (.bastore, 1) := by decide +kernel
theorem d18_82 : decode method_4_code 82 = .ok (.aload 6, 2) := by decide +kernel
theorem d18_84 : decode method_4_code 84 = .ok (.bipush 6, 2) := by decide +kernel
theorem d18_86 : decode method_4_code 86 = .ok (.lload_n 0, 1) := by decide +kernel
theorem d18_87 : decode method_4_code 87 = .ok (.bipush 48, 2) := by decide +kernel
theorem d18_89 : decode method_4_code 89 = .ok (.lushr, 1) := by decide +kernel
theorem d18_90 : decode method_4_code 90 = .ok (.l2i, 1) := by decide +kernel
theorem d18_91 : decode method_4_code 91 = .ok (.i2b, 1) := by decide +kernel
theorem d18_92 : decode method_4_code 92 = .ok (.bastore, 1) := by decide +kernel
theorem d18_93 : decode method_4_code 93 = .ok (.aload 6, 2) := by decide +kernel
theorem d18_95 : decode method_4_code 95 = .ok (.iconst 0, 1) := by decide +kernel
theorem d18_96 : decode method_4_code 96 = .ok (.iload_n 2, 1) := by decide +kernel
theorem d18_97 : decode method_4_code 97 = .ok (.iconst 4, 1) := by decide +kernel
theorem d18_98 : decode method_4_code 98 = .ok (.iushr, 1) := by decide +kernel
theorem d18_99 : decode method_4_code 99 = .ok (.iconst 1, 1) := by decide +kernel
theorem d18_100 : decode method_4_code 100 = .ok (.iand, 1) := by decide +kernel
theorem d18_101 : decode method_4_code 101 = .ok (.i2b, 1) := by decide +kernel
theorem d18_102 : decode method_4_code 102 = .ok (.bastore, 1) := by decide +kernel
theorem d18_103 : decode method_4_code 103 = .ok (.aload 6, 2) := by decide +kernel
theorem d18_105 : decode method_4_code 105 = .ok (.iconst 1, 1) := by decide +kernel
theorem d18_106 : decode method_4_code 106 = .ok (.iload_n 3, 1) := by decide +kernel
theorem d18_107 : decode method_4_code 107 = .ok (.i2b, 1) := by decide +kernel
theorem d18_108 : decode method_4_code 108 = .ok (.bastore, 1) := by decide +kernel
theorem d18_109 : decode method_4_code 109 = .ok (.aload 6, 2) := by decide +kernel
theorem d18_111 : decode method_4_code 111 = .ok (.iconst 2, 1) := by decide +kernel
theorem d18_112 : decode method_4_code 112 = .ok (.iload_n 3, 1) := by decide +kernel
theorem d18_113 : decode method_4_code 113 = .ok (.iadd, 1) := by decide +kernel
theorem d18_114 : decode method_4_code 114 = .ok (.iload 4, 2) := by decide +kernel
theorem d18_116 : decode method_4_code 116 = .ok (.i2b, 1) := by decide +kernel
theorem d18_117 : decode method_4_code 117 = .ok (.bastore, 1) := by decide +kernel
theorem d18_118 : decode method_4_code 118 = .ok (.aload 6, 2) := by decide +kernel
theorem d18_120 : decode method_4_code 120 = .ok (.iconst 3, 1) := by decide +kernel
theorem d18_121 : decode method_4_code 121 = .ok (.iload_n 3, 1) := by decide +kernel
theorem d18_122 : decode method_4_code 122 = .ok (.iadd, 1) := by decide +kernel
theorem d18_123 : decode method_4_code 123 = .ok (.iload 4, 2) := by decide +kernel
theorem d18_125 : decode method_4_code 125 = .ok (.iadd, 1) := by decide +kernel
theorem d18_126 : decode method_4_code 126 = .ok (.iload 5, 2) := by decide +kernel
theorem d18_128 : decode method_4_code 128 = .ok (.i2b, 1) := by decide +kernel
theorem d18_129 : decode method_4_code 129 = .ok (.bastore, 1) := by decide +kernel
theorem d18_130 : decode method_4_code 130 = .ok (.aload 6, 2) := by decide +kernel
theorem d18_132 : decode method_4_code 132 = .ok (.areturn, 1) := by decide +kernel
theorem ef_18 (m : MethodId) (x0 : Int64) (x1 : Int32) : entryFrame m #[(.long x0), (.int x1)] 7 = mkF m 0 #[.val (.long x0), .second, .val (.int x1), .unset, .unset, .unset, .unset] [] := by first | (simp [entryFrame, mkF, argsToLocals, Value.category]; done) | rfl
def Q18 (Z : State) (p1 : Int64) (p3 : Int32) (h0 : Heap) (n0 : Nat) (v : Option Value) (h : Heap) (L : List Loc) : Prop := v = some (.ref h0.size) ∧ Fr n0 L ∧ Keep h0 h [] ∧ ∃ k vs, Arv Z h h0.size k .byte (7 : Int32) vs (.int (0 : Int32)) ∧ own_ok7 vs (own_kd p3) (own_ta p3) (own_tr p3) (own_tc p3)
set_option maxRecDepth 65536 in
set_option maxHeartbeats 40000000 in
theorem rm18 (l : Launch) (Z : State) (a0 : Array Value) (hw : ∀ d ∈ tables_1, d.before a0 Z = true) (ws : List Jvm.Cond) (p1 : Int64) (p3 : Int32) (h0 : Heap) (n0 : Nat) (Z0 : n0 ≤ h0.size)  :
    MetFree l (⟨"com/example/highwater/highwater/sweep/QueueLayoutBeginPinLaw", "build", "(JI)[B"⟩ : MethodName) (head1 (Jvm.Cond.code (⟨"com/example/highwater/highwater/sweep/QueueLayoutBeginPinLaw", "build", "(JI)[B"⟩ : MethodName) method_4_code 7 (some (.array .byte)) :: ws) ({ frames := 1, cells := 1, slots := 7, locals := 13 } : Room)) (fun a U => a = #[(.long p1), (.int p3)] ∧ Z.Warmed39 U.vm ∧ U.heap = h0) (fun _ _ _ _ _ => True) (fun _ U o U' => ∃ v L, o = .returned v ∧ Q18 Z p1 p3 h0 n0 v U'.heap L ∧ FrameEnd U o U' L ({ frames := 1, cells := 1, slots := 7, locals := 13 } : Room).cells ({ frames := 1, cells := 1, slots := 7, locals := 13 } : Room).slots) := by
  refine MetFree.of_bodySF (plainFor_of_name pn_com_example_highwater_highwater_sweep_QueueLayoutBeginPinLaw) hisR ?_
  intro p e s m args below meth c s₁ Bd hml0 hP hK
  obtain ⟨rfl, hZ, hh⟩ := hP
  have hx := Bd.exec
  have hby := Bd.bytes
  have hml : c.maxLocals = 7 := hml0
  have hown : s.vm.findClass "com/example/highwater/highwater/sweep/QueueLayoutBeginPinLaw" = some m.cls := findClass_of_methodNamed Bd.named
  have hnm := (name_of_methodNamed Bd.named Bd.method).1
  have X0 : Stand p l e ({ frames := 1, cells := 1, slots := 7, locals := 13 } : Room) s m #[(.long p1), (.int p3)] below meth c s₁ [] 0 0 := Stand.of_body Bd
  have e0 : s₁.heap = h0 := by rw [← hh, Bd.state]; rfl
  have N0 := Fr.nil n0
  show Goes p e below (fun s₂ o => ∃ v L, o = .returned v ∧ Q18 Z p1 p3 h0 n0 v s₂.heap L ∧ FrameEnd s o s₂ L ({ frames := 1, cells := 1, slots := 7, locals := 13 } : Room).cells ({ frames := 1, cells := 1, slots := 7, locals := 13 } : Room).slots) (s₁.setTop (entryFrame m #[(.long p1), (.int p3)] 7))
  refine Goes.cast (ef_18 m p1 p3) ?_
  have K0 := Keep.refl h0 []
  refine Goes.via (B := s₁.setTop (mkF m 1 #[.val (.long p1), .second, .val (.int p3), .unset, .unset, .unset, .unset] [(.int p3)])) (fun t k => XS.iloadN X0.here hx rfl (hb hby d18_0) rfl k) ?_
  obtain ⟨_, _, ⟨T1, L1, kk1, nn1⟩, -, X1, ⟨Lc1, hQ1, l1, y1, z1⟩, st1⟩ := Jvm.LawKit.callS X0 hx (y := (⟨"com/example/highwater/highwater/sweep/QueueLayoutBeginPinLaw", "tableLen", "(I)I"⟩ : MethodName)) hown (mvT hZ (hw _ (List.mem_of_getElem? (i := 4) rfl))) (mvT hZ (hw _ (List.mem_of_getElem? (i := 5) rfl))) (mvT hZ (hw _ (List.mem_of_getElem? (i := 2) rfl))) (mvT hZ (hw _ (List.mem_of_getElem? (i := 6) rfl))) (by decide) (backOf (W := 0) (rm16 l Z a0 hw [] p3 h0 n0 Z0 ) hZ (hw _ (List.mem_of_getElem? (i := 6) rfl)) (hw _ (List.mem_of_getElem? (i := 2) rfl)) (by decide) (by decide)) (g := (mkF m 1 #[.val (.long p1), .second, .val (.int p3), .unset, .unset, .unset, .unset] [(.int p3)])) rfl (by rw [hml]; rfl) (argsL := [(.int p3)]) (rest := []) (lenOf pd__I_I rfl) rfl (by show 2 * 0 + _ ≤ _; exact Nat.le_of_eq rfl) (hb hby d18_1) (fun _ _ => ⟨rfl, e0, (by decide : 0 + 0 ≤ _), (by decide : 0 + 0 ≤ _)⟩)
  dsimp only [Pt.U, Pt.locs, Pt.cells, Pt.slots] at X1 l1 y1 z1 st1 hQ1
  subst l1 y1 z1
  obtain ⟨rfl, Nq1, hq1⟩ := hQ1
  have N1 := Fr.app N0 Nq1
  refine Goes.via (B := T1.setTop (mkF m 4 #[.val (.long p1), .second, .val (.int p3), .unset, .unset, .unset, .unset] [(.int (own_ta p3))])) st1 ?_
  refine Goes.via (B := T1.setTop (mkF m 5 #[.val (.long p1), .second, .val (.int p3), .val (.int (own_ta p3)), .unset, .unset, .unset] [])) (fun t k => XS.istoreN X1.here hx rfl (hb hby d18_4) rfl (l' := #[.val (.long p1), .second, .val (.int p3), .val (.int (own_ta p3)), .unset, .unset, .unset]) rfl k) ?_
  generalize hva : (own_ta p3) = va
  refine Goes.via (B := T1.setTop (mkF m 6 #[.val (.long p1), .second, .val (.int p3), .val (.int va), .unset, .unset, .unset] [(.int p3)])) (fun t k => XS.iloadN X1.here hx rfl (hb hby d18_5) rfl k) ?_
  obtain ⟨_, _, ⟨T2, L2, kk2, nn2⟩, -, X2, ⟨Lc2, hQ2, l2, y2, z2⟩, st2⟩ := Jvm.LawKit.callS X1 hx (y := (⟨"com/example/highwater/highwater/sweep/QueueLayoutBeginPinLaw", "rowLen", "(I)I"⟩ : MethodName)) hown (mvT hZ (hw _ (List.mem_of_getElem? (i := 7) rfl))) (mvT hZ (hw _ (List.mem_of_getElem? (i := 8) rfl))) (mvT hZ (hw _ (List.mem_of_getElem? (i := 2) rfl))) (mvT hZ (hw _ (List.mem_of_getElem? (i := 9) rfl))) (by decide) (backOf (W := 0) (rm17 l Z a0 hw [] p3 h0 n0 Z0 ) hZ (hw _ (List.mem_of_getElem? (i := 9) rfl)) (hw _ (List.mem_of_getElem? (i := 2) rfl)) (by decide) (by decide)) (g := (mkF m 6 #[.val (.long p1), .second, .val (.int p3), .val (.int va), .unset, .unset, .unset] [(.int p3)])) rfl (by rw [hml]; rfl) (argsL := [(.int p3)]) (rest := []) (lenOf pd__I_I rfl) rfl (by show 2 * 0 + _ ≤ _; exact Nat.le_of_eq rfl) (hb hby d18_6) (fun _ _ => ⟨rfl, hq1, (by decide : 0 + 0 ≤ _), (by decide : 0 + 0 ≤ _)⟩)
  dsimp only [Pt.U, Pt.locs, Pt.cells, Pt.slots] at X2 l2 y2 z2 st2 hQ2
  subst l2 y2 z2
  obtain ⟨rfl, Nq2, hq2⟩ := hQ2
  have N2 := Fr.app N1 Nq2
  refine Goes.via (B := T2.setTop (mkF m 9 #[.val (.long p1), .second, .val (.int p3), .val (.int va), .unset, .unset, .unset] [(.int (own_tr p3))])) st2 ?_
  refine Goes.via (B := T2.setTop (mkF m 11 #[.val (.long p1), .second, .val (.int p3), .val (.int va), .val (.int (own_tr p3)), .unset, .unset] [])) (fun t k => XS.istore X2.here hx rfl (hb hby d18_9) rfl (l' := #[.val (.long p1), .second, .val (.int p3), .val (.int va), .val (.int (own_tr p3)), .unset, .unset]) rfl k) ?_
  generalize hvb : (own_tr p3) = vb
  refine Goes.via (B := T2.setTop (mkF m 12 #[.val (.long p1), .second, .val (.int p3), .val (.int va), .val (.int vb), .unset, .unset] [(.int (3 : Int32))])) (fun t k => XS.iconst X2.here hx rfl (hb hby d18_11) k) ?_
  refine Goes.via (B := T2.setTop (mkF m 13 #[.val (.long p1), .second, .val (.int p3), .val (.int va), .val (.int vb), .unset, .unset] [(.int va), (.int (3 : Int32))])) (fun t k => XS.iloadN X2.here hx rfl (hb hby d18_12) rfl k) ?_
  refine Goes.via (B := T2.setTop (mkF m 14 #[.val (.long p1), .second, .val (.int p3), .val (.int va), .val (.int vb), .unset, .unset] [(.int ((3 : Int32) - va))])) (fun t k => XS.isub X2.here hx rfl (hb hby d18_13) rfl k) ?_
  refine Goes.via (B := T2.setTop (mkF m 16 #[.val (.long p1), .second, .val (.int p3), .val (.int va), .val (.int vb), .unset, .unset] [(.int vb), (.int ((3 : Int32) - va))])) (fun t k => XS.iload X2.here hx rfl (hb hby d18_14) rfl k) ?_
  refine Goes.via (B := T2.setTop (mkF m 17 #[.val (.long p1), .second, .val (.int p3), .val (.int va), .val (.int vb), .unset, .unset] [(.int (((3 : Int32) - va) - vb))])) (fun t k => XS.isub X2.here hx rfl (hb hby d18_16) rfl k) ?_
  refine Goes.via (B := T2.setTop (mkF m 19 #[.val (.long p1), .second, .val (.int p3), .val (.int va), .val (.int vb), .val (.int (((3 : Int32) - va) - vb)), .unset] [])) (fun t k => XS.istore X2.here hx rfl (hb hby d18_17) rfl (l' := #[.val (.long p1), .second, .val (.int p3), .val (.int va), .val (.int vb), .val (.int (((3 : Int32) - va) - vb)), .unset]) rfl k) ?_
  refine Goes.via (B := T2.setTop (mkF m 21 #[.val (.long p1), .second, .val (.int p3), .val (.int va), .val (.int vb), .val (.int (((3 : Int32) - va) - vb)), .unset] [(.int (7 : Int32))])) (fun t k => XS.bipush X2.here hx rfl (hb hby d18_19) k) ?_
  obtain ⟨T3, h3, k3, X3, e3, E3, A3, st3⟩ := newP X2 hx hZ (hw _ (List.mem_of_getElem? (i := 10) rfl)) hq2 (g := (mkF m 21 #[.val (.long p1), .second, .val (.int p3), .val (.int va), .val (.int vb), .val (.int (((3 : Int32) - va) - vb)), .unset] [(.int (7 : Int32))])) rfl (hb hby d18_21) rfl (by decide) (cap := 7) (by decide) (by decide) (by decide) (by decide)
  obtain ⟨b3, g3⟩ : ∃ z, z = h0.size := ⟨_, rfl⟩
  rw [← g3] at A3 st3
  have Vb3 : Arv Z h3 b3 k3 .byte (7 : Int32) [(.int (0 : Int32)), (.int (0 : Int32)), (.int (0 : Int32)), (.int (0 : Int32)), (.int (0 : Int32)), (.int (0 : Int32)), (.int (0 : Int32))] (.int (0 : Int32)) := (Arv.new A3 (by decide)).pad (pad_rep [] (.int (0 : Int32)) 7)
  have g_b3 : n0 ≤ b3 := Nat.le_trans Z0 (Nat.le_of_eq g3.symm)
  have Z3 : n0 ≤ h3.size := Nat.le_trans Z0 E3.1
  have sz_b3 : h0.size ≤ b3 := Nat.le_trans K0.1 (Nat.le_of_eq g3.symm)
  have K3 := K0.ext E3
  refine Goes.via (B := T3.setTop (mkF m 23 #[.val (.long p1), .second, .val (.int p3), .val (.int va), .val (.int vb), .val (.int (((3 : Int32) - va) - vb)), .unset] [(.ref b3)])) st3 ?_
  refine Goes.via (B := T3.setTop (mkF m 25 #[.val (.long p1), .second, .val (.int p3), .val (.int va), .val (.int vb), .val (.int (((3 : Int32) - va) - vb)), .val (.ref b3)] [])) (fun t k => XS.astore X3.here hx rfl (hb hby d18_23) rfl rfl (l' := #[.val (.long p1), .second, .val (.int p3), .val (.int va), .val (.int vb), .val (.int (((3 : Int32) - va) - vb)), .val (.ref b3)]) rfl k) ?_
  refine Goes.via (B := T3.setTop (mkF m 27 #[.val (.long p1), .second, .val (.int p3), .val (.int va), .val (.int vb), .val (.int (((3 : Int32) - va) - vb)), .val (.ref b3)] [(.ref b3)])) (fun t k => XS.aload X3.here hx rfl (hb hby d18_25) rfl rfl k) ?_
  refine Goes.via (B := T3.setTop (mkF m 28 #[.val (.long p1), .second, .val (.int p3), .val (.int va), .val (.int vb), .val (.int (((3 : Int32) - va) - vb)), .val (.ref b3)] [(.int (0 : Int32)), (.ref b3)])) (fun t k => XS.iconst X3.here hx rfl (hb hby d18_27) k) ?_
  refine Goes.via (B := T3.setTop (mkF m 29 #[.val (.long p1), .second, .val (.int p3), .val (.int va), .val (.int vb), .val (.int (((3 : Int32) - va) - vb)), .val (.ref b3)] [(.long p1), (.int (0 : Int32)), (.ref b3)])) (fun t k => XS.lloadN X3.here hx rfl (hb hby d18_28) rfl k) ?_
  refine Goes.via (B := T3.setTop (mkF m 30 #[.val (.long p1), .second, .val (.int p3), .val (.int va), .val (.int vb), .val (.int (((3 : Int32) - va) - vb)), .val (.ref b3)] [(.int (p1.toInt32)), (.int (0 : Int32)), (.ref b3)])) (fun t k => XS.l2i X3.here hx rfl (hb hby d18_29) rfl k) ?_
  refine Goes.via (B := T3.setTop (mkF m 31 #[.val (.long p1), .second, .val (.int p3), .val (.int va), .val (.int vb), .val (.int (((3 : Int32) - va) - vb)), .val (.ref b3)] [(.int ((p1.toInt32).toInt8.toInt32)), (.int (0 : Int32)), (.ref b3)])) (fun t k => XS.i2b X3.here hx rfl (hb hby d18_30) rfl k) ?_
  generalize hu0 : ((p1.toInt32).toInt8.toInt32) = u0
  have Vc4 := Vb3
  obtain ⟨cl4, Ar4, q4, S4, M4, H4, G4⟩ := Vc4
  have hin4 : ¬ ((0 : Int32) < 0 ∨ cl4.slots.size ≤ ((0 : Int32)).toNatClampNeg) := inb_of S4 ⟨by decide, by decide⟩
  obtain ⟨T4, h4, X4, e4, W4, st4⟩ := stB X3 hx hZ e3 Ar4 (j := (0 : Int32)) hin4 (g := (mkF m 31 #[.val (.long p1), .second, .val (.int p3), .val (.int va), .val (.int vb), .val (.int (((3 : Int32) - va) - vb)), .val (.ref b3)] [(.int u0), (.int (0 : Int32)), (.ref b3)])) rfl rfl (hb hby d18_31)
  have Vb3_4 := Arv.set Ar4 q4 S4 M4 H4 G4 (fits_nar_byte _) W4 0 rfl (Nat.le_of_ble_eq_true rfl)
  replace Vb3_4 : Arv Z h4 b3 k3 .byte (7 : Int32) [(.int (nar .byte u0)), (.int (0 : Int32)), (.int (0 : Int32)), (.int (0 : Int32)), (.int (0 : Int32)), (.int (0 : Int32)), (.int (0 : Int32))] (.int (0 : Int32)) := Vb3_4
  have N4 := Fr.snoc X4 N2 g_b3
  have Z4 : n0 ≤ h4.size := Nat.le_trans Z3 (Nat.le_of_eq W4.size.symm)
  have K4 := K3.wr W4 (Or.inr sz_b3)
  refine Goes.via (B := T4.setTop (mkF m 32 #[.val (.long p1), .second, .val (.int p3), .val (.int va), .val (.int vb), .val (.int (((3 : Int32) - va) - vb)), .val (.ref b3)] [])) st4 ?_
  refine Goes.via (B := T4.setTop (mkF m 34 #[.val (.long p1), .second, .val (.int p3), .val (.int va), .val (.int vb), .val (.int (((3 : Int32) - va) - vb)), .val (.ref b3)] [(.ref b3)])) (fun t k => XS.aload X4.here hx rfl (hb hby d18_32) rfl rfl k) ?_
  refine Goes.via (B := T4.setTop (mkF m 35 #[.val (.long p1), .second, .val (.int p3), .val (.int va), .val (.int vb), .val (.int (((3 : Int32) - va) - vb)), .val (.ref b3)] [(.int (1 : Int32)), (.ref b3)])) (fun t k => XS.iconst X4.here hx rfl (hb hby d18_34) k) ?_
  refine Goes.via (B := T4.setTop (mkF m 36 #[.val (.long p1), .second, .val (.int p3), .val (.int va), .val (.int vb), .val (.int (((3 : Int32) - va) - vb)), .val (.ref b3)] [(.long p1), (.int (1 : Int32)), (.ref b3)])) (fun t k => XS.lloadN X4.here hx rfl (hb hby d18_35) rfl k) ?_
  refine Goes.via (B := T4.setTop (mkF m 38 #[.val (.long p1), .second, .val (.int p3), .val (.int va), .val (.int vb), .val (.int (((3 : Int32) - va) - vb)), .val (.ref b3)] [(.int (8 : Int32)), (.long p1), (.int (1 : Int32)), (.ref b3)])) (fun t k => XS.bipush X4.here hx rfl (hb hby d18_36) k) ?_
  refine Goes.via (B := T4.setTop (mkF m 39 #[.val (.long p1), .second, .val (.int p3), .val (.int va), .val (.int vb), .val (.int (((3 : Int32) - va) - vb)), .val (.ref b3)] [(.long ((p1.toUInt64 >>> ((8 : Int32) &&& 0x3f).toInt64.toUInt64).toInt64)), (.int (1 : Int32)), (.ref b3)])) (fun t k => XS.lushr X4.here hx rfl (hb hby d18_38) rfl k) ?_
  refine Goes.via (B := T4.setTop (mkF m 40 #[.val (.long p1), .second, .val (.int p3), .val (.int va), .val (.int vb), .val (.int (((3 : Int32) - va) - vb)), .val (.ref b3)] [(.int (((p1.toUInt64 >>> ((8 : Int32) &&& 0x3f).toInt64.toUInt64).toInt64).toInt32)), (.int (1 : Int32)), (.ref b3)])) (fun t k => XS.l2i X4.here hx rfl (hb hby d18_39) rfl k) ?_
  refine Goes.via (B := T4.setTop (mkF m 41 #[.val (.long p1), .second, .val (.int p3), .val (.int va), .val (.int vb), .val (.int (((3 : Int32) - va) - vb)), .val (.ref b3)] [(.int ((((p1.toUInt64 >>> ((8 : Int32) &&& 0x3f).toInt64.toUInt64).toInt64).toInt32).toInt8.toInt32)), (.int (1 : Int32)), (.ref b3)])) (fun t k => XS.i2b X4.here hx rfl (hb hby d18_40) rfl k) ?_
  generalize hu1 : ((((p1.toUInt64 >>> ((8 : Int32) &&& 0x3f).toInt64.toUInt64).toInt64).toInt32).toInt8.toInt32) = u1
  have Vc5 := Vb3_4
  obtain ⟨cl5, Ar5, q5, S5, M5, H5, G5⟩ := Vc5
  have hin5 : ¬ ((1 : Int32) < 0 ∨ cl5.slots.size ≤ ((1 : Int32)).toNatClampNeg) := inb_of S5 ⟨by decide, by decide⟩
  obtain ⟨T5, h5, X5, e5, W5, st5⟩ := stB X4 hx hZ e4 Ar5 (j := (1 : Int32)) hin5 (g := (mkF m 41 #[.val (.long p1), .second, .val (.int p3), .val (.int va), .val (.int vb), .val (.int (((3 : Int32) - va) - vb)), .val (.ref b3)] [(.int u1), (.int (1 : Int32)), (.ref b3)])) rfl rfl (hb hby d18_41)
  have Vb3_5 := Arv.set Ar5 q5 S5 M5 H5 G5 (fits_nar_byte _) W5 1 rfl (Nat.le_of_ble_eq_true rfl)
  replace Vb3_5 : Arv Z h5 b3 k3 .byte (7 : Int32) [(.int (nar .byte u0)), (.int (nar .byte u1)), (.int (0 : Int32)), (.int (0 : Int32)), (.int (0 : Int32)), (.int (0 : Int32)), (.int (0 : Int32))] (.int (0 : Int32)) := Vb3_5
  have N5 := Fr.snoc X5 N4 g_b3
  have Z5 : n0 ≤ h5.size := Nat.le_trans Z4 (Nat.le_of_eq W5.size.symm)
  have K5 := K4.wr W5 (Or.inr sz_b3)
  refine Goes.via (B := T5.setTop (mkF m 42 #[.val (.long p1), .second, .val (.int p3), .val (.int va), .val (.int vb), .val (.int (((3 : Int32) - va) - vb)), .val (.ref b3)] [])) st5 ?_
  refine Goes.via (B := T5.setTop (mkF m 44 #[.val (.long p1), .second, .val (.int p3), .val (.int va), .val (.int vb), .val (.int (((3 : Int32) - va) - vb)), .val (.ref b3)] [(.ref b3)])) (fun t k => XS.aload X5.here hx rfl (hb hby d18_42) rfl rfl k) ?_
  refine Goes.via (B := T5.setTop (mkF m 45 #[.val (.long p1), .second, .val (.int p3), .val (.int va), .val (.int vb), .val (.int (((3 : Int32) - va) - vb)), .val (.ref b3)] [(.int (2 : Int32)), (.ref b3)])) (fun t k => XS.iconst X5.here hx rfl (hb hby d18_44) k) ?_
  refine Goes.via (B := T5.setTop (mkF m 46 #[.val (.long p1), .second, .val (.int p3), .val (.int va), .val (.int vb), .val (.int (((3 : Int32) - va) - vb)), .val (.ref b3)] [(.long p1), (.int (2 : Int32)), (.ref b3)])) (fun t k => XS.lloadN X5.here hx rfl (hb hby d18_45) rfl k) ?_
  refine Goes.via (B := T5.setTop (mkF m 48 #[.val (.long p1), .second, .val (.int p3), .val (.int va), .val (.int vb), .val (.int (((3 : Int32) - va) - vb)), .val (.ref b3)] [(.int (16 : Int32)), (.long p1), (.int (2 : Int32)), (.ref b3)])) (fun t k => XS.bipush X5.here hx rfl (hb hby d18_46) k) ?_
  refine Goes.via (B := T5.setTop (mkF m 49 #[.val (.long p1), .second, .val (.int p3), .val (.int va), .val (.int vb), .val (.int (((3 : Int32) - va) - vb)), .val (.ref b3)] [(.long ((p1.toUInt64 >>> ((16 : Int32) &&& 0x3f).toInt64.toUInt64).toInt64)), (.int (2 : Int32)), (.ref b3)])) (fun t k => XS.lushr X5.here hx rfl (hb hby d18_48) rfl k) ?_
  refine Goes.via (B := T5.setTop (mkF m 50 #[.val (.long p1), .second, .val (.int p3), .val (.int va), .val (.int vb), .val (.int (((3 : Int32) - va) - vb)), .val (.ref b3)] [(.int (((p1.toUInt64 >>> ((16 : Int32) &&& 0x3f).toInt64.toUInt64).toInt64).toInt32)), (.int (2 : Int32)), (.ref b3)])) (fun t k => XS.l2i X5.here hx rfl (hb hby d18_49) rfl k) ?_
  refine Goes.via (B := T5.setTop (mkF m 51 #[.val (.long p1), .second, .val (.int p3), .val (.int va), .val (.int vb), .val (.int (((3 : Int32) - va) - vb)), .val (.ref b3)] [(.int ((((p1.toUInt64 >>> ((16 : Int32) &&& 0x3f).toInt64.toUInt64).toInt64).toInt32).toInt8.toInt32)), (.int (2 : Int32)), (.ref b3)])) (fun t k => XS.i2b X5.here hx rfl (hb hby d18_50) rfl k) ?_
  generalize hu2 : ((((p1.toUInt64 >>> ((16 : Int32) &&& 0x3f).toInt64.toUInt64).toInt64).toInt32).toInt8.toInt32) = u2
  have Vc6 := Vb3_5
  obtain ⟨cl6, Ar6, q6, S6, M6, H6, G6⟩ := Vc6
  have hin6 : ¬ ((2 : Int32) < 0 ∨ cl6.slots.size ≤ ((2 : Int32)).toNatClampNeg) := inb_of S6 ⟨by decide, by decide⟩
  obtain ⟨T6, h6, X6, e6, W6, st6⟩ := stB X5 hx hZ e5 Ar6 (j := (2 : Int32)) hin6 (g := (mkF m 51 #[.val (.long p1), .second, .val (.int p3), .val (.int va), .val (.int vb), .val (.int (((3 : Int32) - va) - vb)), .val (.ref b3)] [(.int u2), (.int (2 : Int32)), (.ref b3)])) rfl rfl (hb hby d18_51)
  have Vb3_6 := Arv.set Ar6 q6 S6 M6 H6 G6 (fits_nar_byte _) W6 2 rfl (Nat.le_of_ble_eq_true rfl)
  replace Vb3_6 : Arv Z h6 b3 k3 .byte (7 : Int32) [(.int (nar .byte u0)), (.int (nar .byte u1)), (.int (nar .byte u2)), (.int (0 : Int32)), (.int (0 : Int32)), (.int (0 : Int32)), (.int (0 : Int32))] (.int (0 : Int32)) := Vb3_6
  have N6 := Fr.snoc X6 N5 g_b3
  have Z6 : n0 ≤ h6.size := Nat.le_trans Z5 (Nat.le_of_eq W6.size.symm)
  have K6 := K5.wr W6 (Or.inr sz_b3)
  refine Goes.via (B := T6.setTop (mkF m 52 #[.val (.long p1), .second, .val (.int p3), .val (.int va), .val (.int vb), .val (.int (((3 : Int32) - va) - vb)), .val (.ref b3)] [])) st6 ?_
  refine Goes.via (B := T6.setTop (mkF m 54 #[.val (.long p1), .second, .val (.int p3), .val (.int va), .val (.int vb), .val (.int (((3 : Int32) - va) - vb)), .val (.ref b3)] [(.ref b3)])) (fun t k => XS.aload X6.here hx rfl (hb hby d18_52) rfl rfl k) ?_
  refine Goes.via (B := T6.setTop (mkF m 55 #[.val (.long p1), .second, .val (.int p3), .val (.int va), .val (.int vb), .val (.int (((3 : Int32) - va) - vb)), .val (.ref b3)] [(.int (3 : Int32)), (.ref b3)])) (fun t k => XS.iconst X6.here hx rfl (hb hby d18_54) k) ?_
  refine Goes.via (B := T6.setTop (mkF m 56 #[.val (.long p1), .second, .val (.int p3), .val (.int va), .val (.int vb), .val (.int (((3 : Int32) - va) - vb)), .val (.ref b3)] [(.long p1), (.int (3 : Int32)), (.ref b3)])) (fun t k => XS.lloadN X6.here hx rfl (hb hby d18_55) rfl k) ?_
  refine Goes.via (B := T6.setTop (mkF m 58 #[.val (.long p1), .second, .val (.int p3), .val (.int va), .val (.int vb), .val (.int (((3 : Int32) - va) - vb)), .val (.ref b3)] [(.int (24 : Int32)), (.long p1), (.int (3 : Int32)), (.ref b3)])) (fun t k => XS.bipush X6.here hx rfl (hb hby d18_56) k) ?_
  refine Goes.via (B := T6.setTop (mkF m 59 #[.val (.long p1), .second, .val (.int p3), .val (.int va), .val (.int vb), .val (.int (((3 : Int32) - va) - vb)), .val (.ref b3)] [(.long ((p1.toUInt64 >>> ((24 : Int32) &&& 0x3f).toInt64.toUInt64).toInt64)), (.int (3 : Int32)), (.ref b3)])) (fun t k => XS.lushr X6.here hx rfl (hb hby d18_58) rfl k) ?_
  refine Goes.via (B := T6.setTop (mkF m 60 #[.val (.long p1), .second, .val (.int p3), .val (.int va), .val (.int vb), .val (.int (((3 : Int32) - va) - vb)), .val (.ref b3)] [(.int (((p1.toUInt64 >>> ((24 : Int32) &&& 0x3f).toInt64.toUInt64).toInt64).toInt32)), (.int (3 : Int32)), (.ref b3)])) (fun t k => XS.l2i X6.here hx rfl (hb hby d18_59) rfl k) ?_
  refine Goes.via (B := T6.setTop (mkF m 61 #[.val (.long p1), .second, .val (.int p3), .val (.int va), .val (.int vb), .val (.int (((3 : Int32) - va) - vb)), .val (.ref b3)] [(.int ((((p1.toUInt64 >>> ((24 : Int32) &&& 0x3f).toInt64.toUInt64).toInt64).toInt32).toInt8.toInt32)), (.int (3 : Int32)), (.ref b3)])) (fun t k => XS.i2b X6.here hx rfl (hb hby d18_60) rfl k) ?_
  generalize hu3 : ((((p1.toUInt64 >>> ((24 : Int32) &&& 0x3f).toInt64.toUInt64).toInt64).toInt32).toInt8.toInt32) = u3
  have Vc7 := Vb3_6
  obtain ⟨cl7, Ar7, q7, S7, M7, H7, G7⟩ := Vc7
  have hin7 : ¬ ((3 : Int32) < 0 ∨ cl7.slots.size ≤ ((3 : Int32)).toNatClampNeg) := inb_of S7 ⟨by decide, by decide⟩
  obtain ⟨T7, h7, X7, e7, W7, st7⟩ := stB X6 hx hZ e6 Ar7 (j := (3 : Int32)) hin7 (g := (mkF m 61 #[.val (.long p1), .second, .val (.int p3), .val (.int va), .val (.int vb), .val (.int (((3 : Int32) - va) - vb)), .val (.ref b3)] [(.int u3), (.int (3 : Int32)), (.ref b3)])) rfl rfl (hb hby d18_61)
  have Vb3_7 := Arv.set Ar7 q7 S7 M7 H7 G7 (fits_nar_byte _) W7 3 rfl (Nat.le_of_ble_eq_true rfl)
  replace Vb3_7 : Arv Z h7 b3 k3 .byte (7 : Int32) [(.int (nar .byte u0)), (.int (nar .byte u1)), (.int (nar .byte u2)), (.int (nar .byte u3)), (.int (0 : Int32)), (.int (0 : Int32)), (.int (0 : Int32))] (.int (0 : Int32)) := Vb3_7
  have N7 := Fr.snoc X7 N6 g_b3
  have Z7 : n0 ≤ h7.size := Nat.le_trans Z6 (Nat.le_of_eq W7.size.symm)
  have K7 := K6.wr W7 (Or.inr sz_b3)
  refine Goes.via (B := T7.setTop (mkF m 62 #[.val (.long p1), .second, .val (.int p3), .val (.int va), .val (.int vb), .val (.int (((3 : Int32) - va) - vb)), .val (.ref b3)] [])) st7 ?_
  refine Goes.via (B := T7.setTop (mkF m 64 #[.val (.long p1), .second, .val (.int p3), .val (.int va), .val (.int vb), .val (.int (((3 : Int32) - va) - vb)), .val (.ref b3)] [(.ref b3)])) (fun t k => XS.aload X7.here hx rfl (hb hby d18_62) rfl rfl k) ?_
  refine Goes.via (B := T7.setTop (mkF m 65 #[.val (.long p1), .second, .val (.int p3), .val (.int va), .val (.int vb), .val (.int (((3 : Int32) - va) - vb)), .val (.ref b3)] [(.int (4 : Int32)), (.ref b3)])) (fun t k => XS.iconst X7.here hx rfl (hb hby d18_64) k) ?_
  refine Goes.via (B := T7.setTop (mkF m 66 #[.val (.long p1), .second, .val (.int p3), .val (.int va), .val (.int vb), .val (.int (((3 : Int32) - va) - vb)), .val (.ref b3)] [(.long p1), (.int (4 : Int32)), (.ref b3)])) (fun t k => XS.lloadN X7.here hx rfl (hb hby d18_65) rfl k) ?_
  refine Goes.via (B := T7.setTop (mkF m 68 #[.val (.long p1), .second, .val (.int p3), .val (.int va), .val (.int vb), .val (.int (((3 : Int32) - va) - vb)), .val (.ref b3)] [(.int (32 : Int32)), (.long p1), (.int (4 : Int32)), (.ref b3)])) (fun t k => XS.bipush X7.here hx rfl (hb hby d18_66) k) ?_
  refine Goes.via (B := T7.setTop (mkF m 69 #[.val (.long p1), .second, .val (.int p3), .val (.int va), .val (.int vb), .val (.int (((3 : Int32) - va) - vb)), .val (.ref b3)] [(.long ((p1.toUInt64 >>> ((32 : Int32) &&& 0x3f).toInt64.toUInt64).toInt64)), (.int (4 : Int32)), (.ref b3)])) (fun t k => XS.lushr X7.here hx rfl (hb hby d18_68) rfl k) ?_
  refine Goes.via (B := T7.setTop (mkF m 70 #[.val (.long p1), .second, .val (.int p3), .val (.int va), .val (.int vb), .val (.int (((3 : Int32) - va) - vb)), .val (.ref b3)] [(.int (((p1.toUInt64 >>> ((32 : Int32) &&& 0x3f).toInt64.toUInt64).toInt64).toInt32)), (.int (4 : Int32)), (.ref b3)])) (fun t k => XS.l2i X7.here hx rfl (hb hby d18_69) rfl k) ?_
  refine Goes.via (B := T7.setTop (mkF m 71 #[.val (.long p1), .second, .val (.int p3), .val (.int va), .val (.int vb), .val (.int (((3 : Int32) - va) - vb)), .val (.ref b3)] [(.int ((((p1.toUInt64 >>> ((32 : Int32) &&& 0x3f).toInt64.toUInt64).toInt64).toInt32).toInt8.toInt32)), (.int (4 : Int32)), (.ref b3)])) (fun t k => XS.i2b X7.here hx rfl (hb hby d18_70) rfl k) ?_
  generalize hu4 : ((((p1.toUInt64 >>> ((32 : Int32) &&& 0x3f).toInt64.toUInt64).toInt64).toInt32).toInt8.toInt32) = u4
  have Vc8 := Vb3_7
  obtain ⟨cl8, Ar8, q8, S8, M8, H8, G8⟩ := Vc8
  have hin8 : ¬ ((4 : Int32) < 0 ∨ cl8.slots.size ≤ ((4 : Int32)).toNatClampNeg) := inb_of S8 ⟨by decide, by decide⟩
  obtain ⟨T8, h8, X8, e8, W8, st8⟩ := stB X7 hx hZ e7 Ar8 (j := (4 : Int32)) hin8 (g := (mkF m 71 #[.val (.long p1), .second, .val (.int p3), .val (.int va), .val (.int vb), .val (.int (((3 : Int32) - va) - vb)), .val (.ref b3)] [(.int u4), (.int (4 : Int32)), (.ref b3)])) rfl rfl (hb hby d18_71)
  have Vb3_8 := Arv.set Ar8 q8 S8 M8 H8 G8 (fits_nar_byte _) W8 4 rfl (Nat.le_of_ble_eq_true rfl)
  replace Vb3_8 : Arv Z h8 b3 k3 .byte (7 : Int32) [(.int (nar .byte u0)), (.int (nar .byte u1)), (.int (nar .byte u2)), (.int (nar .byte u3)), (.int (nar .byte u4)), (.int (0 : Int32)), (.int (0 : Int32))] (.int (0 : Int32)) := Vb3_8
  have N8 := Fr.snoc X8 N7 g_b3
  have Z8 : n0 ≤ h8.size := Nat.le_trans Z7 (Nat.le_of_eq W8.size.symm)
  have K8 := K7.wr W8 (Or.inr sz_b3)
  refine Goes.via (B := T8.setTop (mkF m 72 #[.val (.long p1), .second, .val (.int p3), .val (.int va), .val (.int vb), .val (.int (((3 : Int32) - va) - vb)), .val (.ref b3)] [])) st8 ?_
  refine Goes.via (B := T8.setTop (mkF m 74 #[.val (.long p1), .second, .val (.int p3), .val (.int va), .val (.int vb), .val (.int (((3 : Int32) - va) - vb)), .val (.ref b3)] [(.ref b3)])) (fun t k => XS.aload X8.here hx rfl (hb hby d18_72) rfl rfl k) ?_
  refine Goes.via (B := T8.setTop (mkF m 75 #[.val (.long p1), .second, .val (.int p3), .val (.int va), .val (.int vb), .val (.int (((3 : Int32) - va) - vb)), .val (.ref b3)] [(.int (5 : Int32)), (.ref b3)])) (fun t k => XS.iconst X8.here hx rfl (hb hby d18_74) k) ?_
  refine Goes.via (B := T8.setTop (mkF m 76 #[.val (.long p1), .second, .val (.int p3), .val (.int va), .val (.int vb), .val (.int (((3 : Int32) - va) - vb)), .val (.ref b3)] [(.long p1), (.int (5 : Int32)), (.ref b3)])) (fun t k => XS.lloadN X8.here hx rfl (hb hby d18_75) rfl k) ?_
  refine Goes.via (B := T8.setTop (mkF m 78 #[.val (.long p1), .second, .val (.int p3), .val (.int va), .val (.int vb), .val (.int (((3 : Int32) - va) - vb)), .val (.ref b3)] [(.int (40 : Int32)), (.long p1), (.int (5 : Int32)), (.ref b3)])) (fun t k => XS.bipush X8.here hx rfl (hb hby d18_76) k) ?_
  refine Goes.via (B := T8.setTop (mkF m 79 #[.val (.long p1), .second, .val (.int p3), .val (.int va), .val (.int vb), .val (.int (((3 : Int32) - va) - vb)), .val (.ref b3)] [(.long ((p1.toUInt64 >>> ((40 : Int32) &&& 0x3f).toInt64.toUInt64).toInt64)), (.int (5 : Int32)), (.ref b3)])) (fun t k => XS.lushr X8.here hx rfl (hb hby d18_78) rfl k) ?_
  refine Goes.via (B := T8.setTop (mkF m 80 #[.val (.long p1), .second, .val (.int p3), .val (.int va), .val (.int vb), .val (.int (((3 : Int32) - va) - vb)), .val (.ref b3)] [(.int (((p1.toUInt64 >>> ((40 : Int32) &&& 0x3f).toInt64.toUInt64).toInt64).toInt32)), (.int (5 : Int32)), (.ref b3)])) (fun t k => XS.l2i X8.here hx rfl (hb hby d18_79) rfl k) ?_
  refine Goes.via (B := T8.setTop (mkF m 81 #[.val (.long p1), .second, .val (.int p3), .val (.int va), .val (.int vb), .val (.int (((3 : Int32) - va) - vb)), .val (.ref b3)] [(.int ((((p1.toUInt64 >>> ((40 : Int32) &&& 0x3f).toInt64.toUInt64).toInt64).toInt32).toInt8.toInt32)), (.int (5 : Int32)), (.ref b3)])) (fun t k => XS.i2b X8.here hx rfl (hb hby d18_80) rfl k) ?_
  generalize hu5 : ((((p1.toUInt64 >>> ((40 : Int32) &&& 0x3f).toInt64.toUInt64).toInt64).toInt32).toInt8.toInt32) = u5
  have Vc9 := Vb3_8
  obtain ⟨cl9, Ar9, q9, S9, M9, H9, G9⟩ := Vc9
  have hin9 : ¬ ((5 : Int32) < 0 ∨ cl9.slots.size ≤ ((5 : Int32)).toNatClampNeg) := inb_of S9 ⟨by decide, by decide⟩
  obtain ⟨T9, h9, X9, e9, W9, st9⟩ := stB X8 hx hZ e8 Ar9 (j := (5 : Int32)) hin9 (g := (mkF m 81 #[.val (.long p1), .second, .val (.int p3), .val (.int va), .val (.int vb), .val (.int (((3 : Int32) - va) - vb)), .val (.ref b3)] [(.int u5), (.int (5 : Int32)), (.ref b3)])) rfl rfl (hb hby d18_81)
  have Vb3_9 := Arv.set Ar9 q9 S9 M9 H9 G9 (fits_nar_byte _) W9 5 rfl (Nat.le_of_ble_eq_true rfl)
  replace Vb3_9 : Arv Z h9 b3 k3 .byte (7 : Int32) [(.int (nar .byte u0)), (.int (nar .byte u1)), (.int (nar .byte u2)), (.int (nar .byte u3)), (.int (nar .byte u4)), (.int (nar .byte u5)), (.int (0 : Int32))] (.int (0 : Int32)) := Vb3_9
  have N9 := Fr.snoc X9 N8 g_b3
  have Z9 : n0 ≤ h9.size := Nat.le_trans Z8 (Nat.le_of_eq W9.size.symm)
  have K9 := K8.wr W9 (Or.inr sz_b3)
  refine Goes.via (B := T9.setTop (mkF m 82 #[.val (.long p1), .second, .val (.int p3), .val (.int va), .val (.int vb), .val (.int (((3 : Int32) - va) - vb)), .val (.ref b3)] [])) st9 ?_
  refine Goes.via (B := T9.setTop (mkF m 84 #[.val (.long p1), .second, .val (.int p3), .val (.int va), .val (.int vb), .val (.int (((3 : Int32) - va) - vb)), .val (.ref b3)] [(.ref b3)])) (fun t k => XS.aload X9.here hx rfl (hb hby d18_82) rfl rfl k) ?_
  refine Goes.via (B := T9.setTop (mkF m 86 #[.val (.long p1), .second, .val (.int p3), .val (.int va), .val (.int vb), .val (.int (((3 : Int32) - va) - vb)), .val (.ref b3)] [(.int (6 : Int32)), (.ref b3)])) (fun t k => XS.bipush X9.here hx rfl (hb hby d18_84) k) ?_
  refine Goes.via (B := T9.setTop (mkF m 87 #[.val (.long p1), .second, .val (.int p3), .val (.int va), .val (.int vb), .val (.int (((3 : Int32) - va) - vb)), .val (.ref b3)] [(.long p1), (.int (6 : Int32)), (.ref b3)])) (fun t k => XS.lloadN X9.here hx rfl (hb hby d18_86) rfl k) ?_
  refine Goes.via (B := T9.setTop (mkF m 89 #[.val (.long p1), .second, .val (.int p3), .val (.int va), .val (.int vb), .val (.int (((3 : Int32) - va) - vb)), .val (.ref b3)] [(.int (48 : Int32)), (.long p1), (.int (6 : Int32)), (.ref b3)])) (fun t k => XS.bipush X9.here hx rfl (hb hby d18_87) k) ?_
  refine Goes.via (B := T9.setTop (mkF m 90 #[.val (.long p1), .second, .val (.int p3), .val (.int va), .val (.int vb), .val (.int (((3 : Int32) - va) - vb)), .val (.ref b3)] [(.long ((p1.toUInt64 >>> ((48 : Int32) &&& 0x3f).toInt64.toUInt64).toInt64)), (.int (6 : Int32)), (.ref b3)])) (fun t k => XS.lushr X9.here hx rfl (hb hby d18_89) rfl k) ?_
  refine Goes.via (B := T9.setTop (mkF m 91 #[.val (.long p1), .second, .val (.int p3), .val (.int va), .val (.int vb), .val (.int (((3 : Int32) - va) - vb)), .val (.ref b3)] [(.int (((p1.toUInt64 >>> ((48 : Int32) &&& 0x3f).toInt64.toUInt64).toInt64).toInt32)), (.int (6 : Int32)), (.ref b3)])) (fun t k => XS.l2i X9.here hx rfl (hb hby d18_90) rfl k) ?_
  refine Goes.via (B := T9.setTop (mkF m 92 #[.val (.long p1), .second, .val (.int p3), .val (.int va), .val (.int vb), .val (.int (((3 : Int32) - va) - vb)), .val (.ref b3)] [(.int ((((p1.toUInt64 >>> ((48 : Int32) &&& 0x3f).toInt64.toUInt64).toInt64).toInt32).toInt8.toInt32)), (.int (6 : Int32)), (.ref b3)])) (fun t k => XS.i2b X9.here hx rfl (hb hby d18_91) rfl k) ?_
  generalize hu6 : ((((p1.toUInt64 >>> ((48 : Int32) &&& 0x3f).toInt64.toUInt64).toInt64).toInt32).toInt8.toInt32) = u6
  have Vc10 := Vb3_9
  obtain ⟨cl10, Ar10, q10, S10, M10, H10, G10⟩ := Vc10
  have hin10 : ¬ ((6 : Int32) < 0 ∨ cl10.slots.size ≤ ((6 : Int32)).toNatClampNeg) := inb_of S10 ⟨by decide, by decide⟩
  obtain ⟨T10, h10, X10, e10, W10, st10⟩ := stB X9 hx hZ e9 Ar10 (j := (6 : Int32)) hin10 (g := (mkF m 92 #[.val (.long p1), .second, .val (.int p3), .val (.int va), .val (.int vb), .val (.int (((3 : Int32) - va) - vb)), .val (.ref b3)] [(.int u6), (.int (6 : Int32)), (.ref b3)])) rfl rfl (hb hby d18_92)
  have Vb3_10 := Arv.set Ar10 q10 S10 M10 H10 G10 (fits_nar_byte _) W10 6 rfl (Nat.le_of_ble_eq_true rfl)
  replace Vb3_10 : Arv Z h10 b3 k3 .byte (7 : Int32) [(.int (nar .byte u0)), (.int (nar .byte u1)), (.int (nar .byte u2)), (.int (nar .byte u3)), (.int (nar .byte u4)), (.int (nar .byte u5)), (.int (nar .byte u6))] (.int (0 : Int32)) := Vb3_10
  have N10 := Fr.snoc X10 N9 g_b3
  have Z10 : n0 ≤ h10.size := Nat.le_trans Z9 (Nat.le_of_eq W10.size.symm)
  have K10 := K9.wr W10 (Or.inr sz_b3)
  refine Goes.via (B := T10.setTop (mkF m 93 #[.val (.long p1), .second, .val (.int p3), .val (.int va), .val (.int vb), .val (.int (((3 : Int32) - va) - vb)), .val (.ref b3)] [])) st10 ?_
  refine Goes.via (B := T10.setTop (mkF m 95 #[.val (.long p1), .second, .val (.int p3), .val (.int va), .val (.int vb), .val (.int (((3 : Int32) - va) - vb)), .val (.ref b3)] [(.ref b3)])) (fun t k => XS.aload X10.here hx rfl (hb hby d18_93) rfl rfl k) ?_
  refine Goes.via (B := T10.setTop (mkF m 96 #[.val (.long p1), .second, .val (.int p3), .val (.int va), .val (.int vb), .val (.int (((3 : Int32) - va) - vb)), .val (.ref b3)] [(.int (0 : Int32)), (.ref b3)])) (fun t k => XS.iconst X10.here hx rfl (hb hby d18_95) k) ?_
  refine Goes.via (B := T10.setTop (mkF m 97 #[.val (.long p1), .second, .val (.int p3), .val (.int va), .val (.int vb), .val (.int (((3 : Int32) - va) - vb)), .val (.ref b3)] [(.int p3), (.int (0 : Int32)), (.ref b3)])) (fun t k => XS.iloadN X10.here hx rfl (hb hby d18_96) rfl k) ?_
  refine Goes.via (B := T10.setTop (mkF m 98 #[.val (.long p1), .second, .val (.int p3), .val (.int va), .val (.int vb), .val (.int (((3 : Int32) - va) - vb)), .val (.ref b3)] [(.int (4 : Int32)), (.int p3), (.int (0 : Int32)), (.ref b3)])) (fun t k => XS.iconst X10.here hx rfl (hb hby d18_97) k) ?_
  refine Goes.via (B := T10.setTop (mkF m 99 #[.val (.long p1), .second, .val (.int p3), .val (.int va), .val (.int vb), .val (.int (((3 : Int32) - va) - vb)), .val (.ref b3)] [(.int ((p3.toUInt32 >>> ((4 : Int32) &&& 31).toUInt32).toInt32)), (.int (0 : Int32)), (.ref b3)])) (fun t k => XS.iushr X10.here hx rfl (hb hby d18_98) rfl k) ?_
  refine Goes.via (B := T10.setTop (mkF m 100 #[.val (.long p1), .second, .val (.int p3), .val (.int va), .val (.int vb), .val (.int (((3 : Int32) - va) - vb)), .val (.ref b3)] [(.int (1 : Int32)), (.int ((p3.toUInt32 >>> ((4 : Int32) &&& 31).toUInt32).toInt32)), (.int (0 : Int32)), (.ref b3)])) (fun t k => XS.iconst X10.here hx rfl (hb hby d18_99) k) ?_
  refine Goes.via (B := T10.setTop (mkF m 101 #[.val (.long p1), .second, .val (.int p3), .val (.int va), .val (.int vb), .val (.int (((3 : Int32) - va) - vb)), .val (.ref b3)] [(.int (((p3.toUInt32 >>> ((4 : Int32) &&& 31).toUInt32).toInt32) &&& (1 : Int32))), (.int (0 : Int32)), (.ref b3)])) (fun t k => XS.iand X10.here hx rfl (hb hby d18_100) rfl k) ?_
  generalize hkd : (((p3.toUInt32 >>> ((4 : Int32) &&& 31).toUInt32).toInt32) &&& (1 : Int32)) = kd
  refine Goes.via (B := T10.setTop (mkF m 102 #[.val (.long p1), .second, .val (.int p3), .val (.int va), .val (.int vb), .val (.int (((3 : Int32) - va) - vb)), .val (.ref b3)] [(.int (kd.toInt8.toInt32)), (.int (0 : Int32)), (.ref b3)])) (fun t k => XS.i2b X10.here hx rfl (hb hby d18_101) rfl k) ?_
  have Vc11 := Vb3_10
  obtain ⟨cl11, Ar11, q11, S11, M11, H11, G11⟩ := Vc11
  have hin11 : ¬ ((0 : Int32) < 0 ∨ cl11.slots.size ≤ ((0 : Int32)).toNatClampNeg) := inb_of S11 ⟨by decide, by decide⟩
  obtain ⟨T11, h11, X11, e11, W11, st11⟩ := stB X10 hx hZ e10 Ar11 (j := (0 : Int32)) hin11 (g := (mkF m 102 #[.val (.long p1), .second, .val (.int p3), .val (.int va), .val (.int vb), .val (.int (((3 : Int32) - va) - vb)), .val (.ref b3)] [(.int (kd.toInt8.toInt32)), (.int (0 : Int32)), (.ref b3)])) rfl rfl (hb hby d18_102)
  have Vb3_11 := Arv.set Ar11 q11 S11 M11 H11 G11 (fits_nar_byte _) W11 0 rfl (Nat.le_of_ble_eq_true rfl)
  replace Vb3_11 : Arv Z h11 b3 k3 .byte (7 : Int32) [(.int (nar .byte (kd.toInt8.toInt32))), (.int (nar .byte u1)), (.int (nar .byte u2)), (.int (nar .byte u3)), (.int (nar .byte u4)), (.int (nar .byte u5)), (.int (nar .byte u6))] (.int (0 : Int32)) := Vb3_11
  have N11 := Fr.snoc X11 N10 g_b3
  have Z11 : n0 ≤ h11.size := Nat.le_trans Z10 (Nat.le_of_eq W11.size.symm)
  have K11 := K10.wr W11 (Or.inr sz_b3)
  refine Goes.via (B := T11.setTop (mkF m 103 #[.val (.long p1), .second, .val (.int p3), .val (.int va), .val (.int vb), .val (.int (((3 : Int32) - va) - vb)), .val (.ref b3)] [])) st11 ?_
  refine Goes.via (B := T11.setTop (mkF m 105 #[.val (.long p1), .second, .val (.int p3), .val (.int va), .val (.int vb), .val (.int (((3 : Int32) - va) - vb)), .val (.ref b3)] [(.ref b3)])) (fun t k => XS.aload X11.here hx rfl (hb hby d18_103) rfl rfl k) ?_
  refine Goes.via (B := T11.setTop (mkF m 106 #[.val (.long p1), .second, .val (.int p3), .val (.int va), .val (.int vb), .val (.int (((3 : Int32) - va) - vb)), .val (.ref b3)] [(.int (1 : Int32)), (.ref b3)])) (fun t k => XS.iconst X11.here hx rfl (hb hby d18_105) k) ?_
  refine Goes.via (B := T11.setTop (mkF m 107 #[.val (.long p1), .second, .val (.int p3), .val (.int va), .val (.int vb), .val (.int (((3 : Int32) - va) - vb)), .val (.ref b3)] [(.int va), (.int (1 : Int32)), (.ref b3)])) (fun t k => XS.iloadN X11.here hx rfl (hb hby d18_106) rfl k) ?_
  refine Goes.via (B := T11.setTop (mkF m 108 #[.val (.long p1), .second, .val (.int p3), .val (.int va), .val (.int vb), .val (.int (((3 : Int32) - va) - vb)), .val (.ref b3)] [(.int (va.toInt8.toInt32)), (.int (1 : Int32)), (.ref b3)])) (fun t k => XS.i2b X11.here hx rfl (hb hby d18_107) rfl k) ?_
  have Vc12 := Vb3_11
  obtain ⟨cl12, Ar12, q12, S12, M12, H12, G12⟩ := Vc12
  have hin12 : ¬ ((1 : Int32) < 0 ∨ cl12.slots.size ≤ ((1 : Int32)).toNatClampNeg) := inb_of S12 ⟨by decide, by decide⟩
  obtain ⟨T12, h12, X12, e12, W12, st12⟩ := stB X11 hx hZ e11 Ar12 (j := (1 : Int32)) hin12 (g := (mkF m 108 #[.val (.long p1), .second, .val (.int p3), .val (.int va), .val (.int vb), .val (.int (((3 : Int32) - va) - vb)), .val (.ref b3)] [(.int (va.toInt8.toInt32)), (.int (1 : Int32)), (.ref b3)])) rfl rfl (hb hby d18_108)
  have Vb3_12 := Arv.set Ar12 q12 S12 M12 H12 G12 (fits_nar_byte _) W12 1 rfl (Nat.le_of_ble_eq_true rfl)
  replace Vb3_12 : Arv Z h12 b3 k3 .byte (7 : Int32) [(.int (nar .byte (kd.toInt8.toInt32))), (.int (nar .byte (va.toInt8.toInt32))), (.int (nar .byte u2)), (.int (nar .byte u3)), (.int (nar .byte u4)), (.int (nar .byte u5)), (.int (nar .byte u6))] (.int (0 : Int32)) := Vb3_12
  have N12 := Fr.snoc X12 N11 g_b3
  have Z12 : n0 ≤ h12.size := Nat.le_trans Z11 (Nat.le_of_eq W12.size.symm)
  have K12 := K11.wr W12 (Or.inr sz_b3)
  refine Goes.via (B := T12.setTop (mkF m 109 #[.val (.long p1), .second, .val (.int p3), .val (.int va), .val (.int vb), .val (.int (((3 : Int32) - va) - vb)), .val (.ref b3)] [])) st12 ?_
  rcases own_ab hva hvb with ⟨rfl, rfl⟩ | ⟨rfl, rfl⟩ | ⟨rfl, rfl⟩ | ⟨rfl, rfl⟩ | ⟨rfl, rfl⟩ | ⟨rfl, rfl⟩ | ⟨rfl, rfl⟩ | ⟨rfl, rfl⟩ | ⟨rfl, rfl⟩ | ⟨rfl, rfl⟩
  · rw [show (((3 : Int32) - (0 : Int32)) - (0 : Int32)) = (3 : Int32) from by decide +kernel]
    refine Goes.via (B := T12.setTop (mkF m 111 #[.val (.long p1), .second, .val (.int p3), .val (.int (0 : Int32)), .val (.int (0 : Int32)), .val (.int (3 : Int32)), .val (.ref b3)] [(.ref b3)])) (fun t k => XS.aload X12.here hx rfl (hb hby d18_109) rfl rfl k) ?_
    refine Goes.via (B := T12.setTop (mkF m 112 #[.val (.long p1), .second, .val (.int p3), .val (.int (0 : Int32)), .val (.int (0 : Int32)), .val (.int (3 : Int32)), .val (.ref b3)] [(.int (2 : Int32)), (.ref b3)])) (fun t k => XS.iconst X12.here hx rfl (hb hby d18_111) k) ?_
    refine Goes.via (B := T12.setTop (mkF m 113 #[.val (.long p1), .second, .val (.int p3), .val (.int (0 : Int32)), .val (.int (0 : Int32)), .val (.int (3 : Int32)), .val (.ref b3)] [(.int (0 : Int32)), (.int (2 : Int32)), (.ref b3)])) (fun t k => XS.iloadN X12.here hx rfl (hb hby d18_112) rfl k) ?_
    refine Goes.via (B := T12.setTop (mkF m 114 #[.val (.long p1), .second, .val (.int p3), .val (.int (0 : Int32)), .val (.int (0 : Int32)), .val (.int (3 : Int32)), .val (.ref b3)] [(.int (2 : Int32)), (.ref b3)])) (fun t k => XS.iadd X12.here hx rfl (hb hby d18_113) rfl k) ?_
    refine Goes.via (B := T12.setTop (mkF m 116 #[.val (.long p1), .second, .val (.int p3), .val (.int (0 : Int32)), .val (.int (0 : Int32)), .val (.int (3 : Int32)), .val (.ref b3)] [(.int (0 : Int32)), (.int (2 : Int32)), (.ref b3)])) (fun t k => XS.iload X12.here hx rfl (hb hby d18_114) rfl k) ?_
    refine Goes.via (B := T12.setTop (mkF m 117 #[.val (.long p1), .second, .val (.int p3), .val (.int (0 : Int32)), .val (.int (0 : Int32)), .val (.int (3 : Int32)), .val (.ref b3)] [(.int ((0 : Int32).toInt8.toInt32)), (.int (2 : Int32)), (.ref b3)])) (fun t k => XS.i2b X12.here hx rfl (hb hby d18_116) rfl k) ?_
    rw [show ((0 : Int32).toInt8.toInt32) = (0 : Int32) from by decide +kernel]
    have Vc13 := Vb3_12
    obtain ⟨cl13, Ar13, q13, S13, M13, H13, G13⟩ := Vc13
    have hin13 : ¬ ((2 : Int32) < 0 ∨ cl13.slots.size ≤ ((2 : Int32)).toNatClampNeg) := inb_of S13 ⟨by decide, by decide⟩
    obtain ⟨T13, h13, X13, e13, W13, st13⟩ := stB X12 hx hZ e12 Ar13 (j := (2 : Int32)) hin13 (g := (mkF m 117 #[.val (.long p1), .second, .val (.int p3), .val (.int (0 : Int32)), .val (.int (0 : Int32)), .val (.int (3 : Int32)), .val (.ref b3)] [(.int (0 : Int32)), (.int (2 : Int32)), (.ref b3)])) rfl rfl (hb hby d18_117)
    have Vb3_13 := Arv.set Ar13 q13 S13 M13 H13 G13 (fits_nar_byte _) W13 2 rfl (Nat.le_of_ble_eq_true rfl)
    replace Vb3_13 : Arv Z h13 b3 k3 .byte (7 : Int32) [(.int (nar .byte (kd.toInt8.toInt32))), (.int (nar .byte ((0 : Int32).toInt8.toInt32))), (.int (nar .byte (0 : Int32))), (.int (nar .byte u3)), (.int (nar .byte u4)), (.int (nar .byte u5)), (.int (nar .byte u6))] (.int (0 : Int32)) := Vb3_13
    have N13 := Fr.snoc X13 N12 g_b3
    have Z13 : n0 ≤ h13.size := Nat.le_trans Z12 (Nat.le_of_eq W13.size.symm)
    have K13 := K12.wr W13 (Or.inr sz_b3)
    refine Goes.via (B := T13.setTop (mkF m 118 #[.val (.long p1), .second, .val (.int p3), .val (.int (0 : Int32)), .val (.int (0 : Int32)), .val (.int (3 : Int32)), .val (.ref b3)] [])) st13 ?_
    refine Goes.via (B := T13.setTop (mkF m 120 #[.val (.long p1), .second, .val (.int p3), .val (.int (0 : Int32)), .val (.int (0 : Int32)), .val (.int (3 : Int32)), .val (.ref b3)] [(.ref b3)])) (fun t k => XS.aload X13.here hx rfl (hb hby d18_118) rfl rfl k) ?_
    refine Goes.via (B := T13.setTop (mkF m 121 #[.val (.long p1), .second, .val (.int p3), .val (.int (0 : Int32)), .val (.int (0 : Int32)), .val (.int (3 : Int32)), .val (.ref b3)] [(.int (3 : Int32)), (.ref b3)])) (fun t k => XS.iconst X13.here hx rfl (hb hby d18_120) k) ?_
    refine Goes.via (B := T13.setTop (mkF m 122 #[.val (.long p1), .second, .val (.int p3), .val (.int (0 : Int32)), .val (.int (0 : Int32)), .val (.int (3 : Int32)), .val (.ref b3)] [(.int (0 : Int32)), (.int (3 : Int32)), (.ref b3)])) (fun t k => XS.iloadN X13.here hx rfl (hb hby d18_121) rfl k) ?_
    refine Goes.via (B := T13.setTop (mkF m 123 #[.val (.long p1), .second, .val (.int p3), .val (.int (0 : Int32)), .val (.int (0 : Int32)), .val (.int (3 : Int32)), .val (.ref b3)] [(.int (3 : Int32)), (.ref b3)])) (fun t k => XS.iadd X13.here hx rfl (hb hby d18_122) rfl k) ?_
    refine Goes.via (B := T13.setTop (mkF m 125 #[.val (.long p1), .second, .val (.int p3), .val (.int (0 : Int32)), .val (.int (0 : Int32)), .val (.int (3 : Int32)), .val (.ref b3)] [(.int (0 : Int32)), (.int (3 : Int32)), (.ref b3)])) (fun t k => XS.iload X13.here hx rfl (hb hby d18_123) rfl k) ?_
    refine Goes.via (B := T13.setTop (mkF m 126 #[.val (.long p1), .second, .val (.int p3), .val (.int (0 : Int32)), .val (.int (0 : Int32)), .val (.int (3 : Int32)), .val (.ref b3)] [(.int (3 : Int32)), (.ref b3)])) (fun t k => XS.iadd X13.here hx rfl (hb hby d18_125) rfl k) ?_
    refine Goes.via (B := T13.setTop (mkF m 128 #[.val (.long p1), .second, .val (.int p3), .val (.int (0 : Int32)), .val (.int (0 : Int32)), .val (.int (3 : Int32)), .val (.ref b3)] [(.int (3 : Int32)), (.int (3 : Int32)), (.ref b3)])) (fun t k => XS.iload X13.here hx rfl (hb hby d18_126) rfl k) ?_
    refine Goes.via (B := T13.setTop (mkF m 129 #[.val (.long p1), .second, .val (.int p3), .val (.int (0 : Int32)), .val (.int (0 : Int32)), .val (.int (3 : Int32)), .val (.ref b3)] [(.int ((3 : Int32).toInt8.toInt32)), (.int (3 : Int32)), (.ref b3)])) (fun t k => XS.i2b X13.here hx rfl (hb hby d18_128) rfl k) ?_
    rw [show ((3 : Int32).toInt8.toInt32) = (3 : Int32) from by decide +kernel]
    have Vc14 := Vb3_13
    obtain ⟨cl14, Ar14, q14, S14, M14, H14, G14⟩ := Vc14
    have hin14 : ¬ ((3 : Int32) < 0 ∨ cl14.slots.size ≤ ((3 : Int32)).toNatClampNeg) := inb_of S14 ⟨by decide, by decide⟩
    obtain ⟨T14, h14, X14, e14, W14, st14⟩ := stB X13 hx hZ e13 Ar14 (j := (3 : Int32)) hin14 (g := (mkF m 129 #[.val (.long p1), .second, .val (.int p3), .val (.int (0 : Int32)), .val (.int (0 : Int32)), .val (.int (3 : Int32)), .val (.ref b3)] [(.int (3 : Int32)), (.int (3 : Int32)), (.ref b3)])) rfl rfl (hb hby d18_129)
    have Vb3_14 := Arv.set Ar14 q14 S14 M14 H14 G14 (fits_nar_byte _) W14 3 rfl (Nat.le_of_ble_eq_true rfl)
    replace Vb3_14 : Arv Z h14 b3 k3 .byte (7 : Int32) [(.int (nar .byte (kd.toInt8.toInt32))), (.int (nar .byte ((0 : Int32).toInt8.toInt32))), (.int (nar .byte (0 : Int32))), (.int (nar .byte (3 : Int32))), (.int (nar .byte u4)), (.int (nar .byte u5)), (.int (nar .byte u6))] (.int (0 : Int32)) := Vb3_14
    have N14 := Fr.snoc X14 N13 g_b3
    have Z14 : n0 ≤ h14.size := Nat.le_trans Z13 (Nat.le_of_eq W14.size.symm)
    have K14 := K13.wr W14 (Or.inr sz_b3)
    refine Goes.via (B := T14.setTop (mkF m 130 #[.val (.long p1), .second, .val (.int p3), .val (.int (0 : Int32)), .val (.int (0 : Int32)), .val (.int (3 : Int32)), .val (.ref b3)] [])) st14 ?_
    refine Goes.via (B := T14.setTop (mkF m 132 #[.val (.long p1), .second, .val (.int p3), .val (.int (0 : Int32)), .val (.int (0 : Int32)), .val (.int (3 : Int32)), .val (.ref b3)] [(.ref b3)])) (fun t k => XS.aload X14.here hx rfl (hb hby d18_130) rfl rfl k) ?_
    have h7 : own_ok7 [(.int (nar .byte (kd.toInt8.toInt32))), (.int (nar .byte ((0 : Int32).toInt8.toInt32))), (.int (nar .byte (0 : Int32))), (.int (nar .byte (3 : Int32))), (.int (nar .byte u4)), (.int (nar .byte u5)), (.int (nar .byte u6))] (own_kd p3) (own_ta p3) (own_tr p3) (own_tc p3) := by
      have hk : (own_kd p3) = kd := hkd
      rw [own_tc, hva, hvb, hk]
      exact ⟨congrArg Value.int (own_kb (hk ▸ own_kd01 p3)), rfl, rfl, rfl⟩
    exact own_out X14 (v := some (.ref b3)) (fun h => by rw [Bd.returns] at h; cases h) Bd.notSynchronized (fun fs hr => retOut X14 hx Bd.returns rfl (Or.inr (Or.inr (Or.inr (Or.inr ⟨rfl, rfl, rfl⟩)))) (hb hby d18_132) hr) ⟨by rw [g3], N14, (by rw [e14]; exact K14), k3, [(.int (nar .byte (kd.toInt8.toInt32))), (.int (nar .byte ((0 : Int32).toInt8.toInt32))), (.int (nar .byte (0 : Int32))), (.int (nar .byte (3 : Int32))), (.int (nar .byte u4)), (.int (nar .byte u5)), (.int (nar .byte u6))], (by rw [e14, ← g3]; exact Vb3_14), h7⟩ (by decide) (by decide)
  · rw [show (((3 : Int32) - (0 : Int32)) - (1 : Int32)) = (2 : Int32) from by decide +kernel]
    refine Goes.via (B := T12.setTop (mkF m 111 #[.val (.long p1), .second, .val (.int p3), .val (.int (0 : Int32)), .val (.int (1 : Int32)), .val (.int (2 : Int32)), .val (.ref b3)] [(.ref b3)])) (fun t k => XS.aload X12.here hx rfl (hb hby d18_109) rfl rfl k) ?_
    refine Goes.via (B := T12.setTop (mkF m 112 #[.val (.long p1), .second, .val (.int p3), .val (.int (0 : Int32)), .val (.int (1 : Int32)), .val (.int (2 : Int32)), .val (.ref b3)] [(.int (2 : Int32)), (.ref b3)])) (fun t k => XS.iconst X12.here hx rfl (hb hby d18_111) k) ?_
    refine Goes.via (B := T12.setTop (mkF m 113 #[.val (.long p1), .second, .val (.int p3), .val (.int (0 : Int32)), .val (.int (1 : Int32)), .val (.int (2 : Int32)), .val (.ref b3)] [(.int (0 : Int32)), (.int (2 : Int32)), (.ref b3)])) (fun t k => XS.iloadN X12.here hx rfl (hb hby d18_112) rfl k) ?_
    refine Goes.via (B := T12.setTop (mkF m 114 #[.val (.long p1), .second, .val (.int p3), .val (.int (0 : Int32)), .val (.int (1 : Int32)), .val (.int (2 : Int32)), .val (.ref b3)] [(.int (2 : Int32)), (.ref b3)])) (fun t k => XS.iadd X12.here hx rfl (hb hby d18_113) rfl k) ?_
    refine Goes.via (B := T12.setTop (mkF m 116 #[.val (.long p1), .second, .val (.int p3), .val (.int (0 : Int32)), .val (.int (1 : Int32)), .val (.int (2 : Int32)), .val (.ref b3)] [(.int (1 : Int32)), (.int (2 : Int32)), (.ref b3)])) (fun t k => XS.iload X12.here hx rfl (hb hby d18_114) rfl k) ?_
    refine Goes.via (B := T12.setTop (mkF m 117 #[.val (.long p1), .second, .val (.int p3), .val (.int (0 : Int32)), .val (.int (1 : Int32)), .val (.int (2 : Int32)), .val (.ref b3)] [(.int ((1 : Int32).toInt8.toInt32)), (.int (2 : Int32)), (.ref b3)])) (fun t k => XS.i2b X12.here hx rfl (hb hby d18_116) rfl k) ?_
    rw [show ((1 : Int32).toInt8.toInt32) = (1 : Int32) from by decide +kernel]
    have Vc15 := Vb3_12
    obtain ⟨cl15, Ar15, q15, S15, M15, H15, G15⟩ := Vc15
    have hin15 : ¬ ((2 : Int32) < 0 ∨ cl15.slots.size ≤ ((2 : Int32)).toNatClampNeg) := inb_of S15 ⟨by decide, by decide⟩
    obtain ⟨T15, h15, X15, e15, W15, st15⟩ := stB X12 hx hZ e12 Ar15 (j := (2 : Int32)) hin15 (g := (mkF m 117 #[.val (.long p1), .second, .val (.int p3), .val (.int (0 : Int32)), .val (.int (1 : Int32)), .val (.int (2 : Int32)), .val (.ref b3)] [(.int (1 : Int32)), (.int (2 : Int32)), (.ref b3)])) rfl rfl (hb hby d18_117)
    have Vb3_15 := Arv.set Ar15 q15 S15 M15 H15 G15 (fits_nar_byte _) W15 2 rfl (Nat.le_of_ble_eq_true rfl)
    replace Vb3_15 : Arv Z h15 b3 k3 .byte (7 : Int32) [(.int (nar .byte (kd.toInt8.toInt32))), (.int (nar .byte ((0 : Int32).toInt8.toInt32))), (.int (nar .byte (1 : Int32))), (.int (nar .byte u3)), (.int (nar .byte u4)), (.int (nar .byte u5)), (.int (nar .byte u6))] (.int (0 : Int32)) := Vb3_15
    have N15 := Fr.snoc X15 N12 g_b3
    have Z15 : n0 ≤ h15.size := Nat.le_trans Z12 (Nat.le_of_eq W15.size.symm)
    have K15 := K12.wr W15 (Or.inr sz_b3)
    refine Goes.via (B := T15.setTop (mkF m 118 #[.val (.long p1), .second, .val (.int p3), .val (.int (0 : Int32)), .val (.int (1 : Int32)), .val (.int (2 : Int32)), .val (.ref b3)] [])) st15 ?_
    refine Goes.via (B := T15.setTop (mkF m 120 #[.val (.long p1), .second, .val (.int p3), .val (.int (0 : Int32)), .val (.int (1 : Int32)), .val (.int (2 : Int32)), .val (.ref b3)] [(.ref b3)])) (fun t k => XS.aload X15.here hx rfl (hb hby d18_118) rfl rfl k) ?_
    refine Goes.via (B := T15.setTop (mkF m 121 #[.val (.long p1), .second, .val (.int p3), .val (.int (0 : Int32)), .val (.int (1 : Int32)), .val (.int (2 : Int32)), .val (.ref b3)] [(.int (3 : Int32)), (.ref b3)])) (fun t k => XS.iconst X15.here hx rfl (hb hby d18_120) k) ?_
    refine Goes.via (B := T15.setTop (mkF m 122 #[.val (.long p1), .second, .val (.int p3), .val (.int (0 : Int32)), .val (.int (1 : Int32)), .val (.int (2 : Int32)), .val (.ref b3)] [(.int (0 : Int32)), (.int (3 : Int32)), (.ref b3)])) (fun t k => XS.iloadN X15.here hx rfl (hb hby d18_121) rfl k) ?_
    refine Goes.via (B := T15.setTop (mkF m 123 #[.val (.long p1), .second, .val (.int p3), .val (.int (0 : Int32)), .val (.int (1 : Int32)), .val (.int (2 : Int32)), .val (.ref b3)] [(.int (3 : Int32)), (.ref b3)])) (fun t k => XS.iadd X15.here hx rfl (hb hby d18_122) rfl k) ?_
    refine Goes.via (B := T15.setTop (mkF m 125 #[.val (.long p1), .second, .val (.int p3), .val (.int (0 : Int32)), .val (.int (1 : Int32)), .val (.int (2 : Int32)), .val (.ref b3)] [(.int (1 : Int32)), (.int (3 : Int32)), (.ref b3)])) (fun t k => XS.iload X15.here hx rfl (hb hby d18_123) rfl k) ?_
    refine Goes.via (B := T15.setTop (mkF m 126 #[.val (.long p1), .second, .val (.int p3), .val (.int (0 : Int32)), .val (.int (1 : Int32)), .val (.int (2 : Int32)), .val (.ref b3)] [(.int (4 : Int32)), (.ref b3)])) (fun t k => XS.iadd X15.here hx rfl (hb hby d18_125) rfl k) ?_
    refine Goes.via (B := T15.setTop (mkF m 128 #[.val (.long p1), .second, .val (.int p3), .val (.int (0 : Int32)), .val (.int (1 : Int32)), .val (.int (2 : Int32)), .val (.ref b3)] [(.int (2 : Int32)), (.int (4 : Int32)), (.ref b3)])) (fun t k => XS.iload X15.here hx rfl (hb hby d18_126) rfl k) ?_
    refine Goes.via (B := T15.setTop (mkF m 129 #[.val (.long p1), .second, .val (.int p3), .val (.int (0 : Int32)), .val (.int (1 : Int32)), .val (.int (2 : Int32)), .val (.ref b3)] [(.int ((2 : Int32).toInt8.toInt32)), (.int (4 : Int32)), (.ref b3)])) (fun t k => XS.i2b X15.here hx rfl (hb hby d18_128) rfl k) ?_
    rw [show ((2 : Int32).toInt8.toInt32) = (2 : Int32) from by decide +kernel]
    have Vc16 := Vb3_15
    obtain ⟨cl16, Ar16, q16, S16, M16, H16, G16⟩ := Vc16
    have hin16 : ¬ ((4 : Int32) < 0 ∨ cl16.slots.size ≤ ((4 : Int32)).toNatClampNeg) := inb_of S16 ⟨by decide, by decide⟩
    obtain ⟨T16, h16, X16, e16, W16, st16⟩ := stB X15 hx hZ e15 Ar16 (j := (4 : Int32)) hin16 (g := (mkF m 129 #[.val (.long p1), .second, .val (.int p3), .val (.int (0 : Int32)), .val (.int (1 : Int32)), .val (.int (2 : Int32)), .val (.ref b3)] [(.int (2 : Int32)), (.int (4 : Int32)), (.ref b3)])) rfl rfl (hb hby d18_129)
    have Vb3_16 := Arv.set Ar16 q16 S16 M16 H16 G16 (fits_nar_byte _) W16 4 rfl (Nat.le_of_ble_eq_true rfl)
    replace Vb3_16 : Arv Z h16 b3 k3 .byte (7 : Int32) [(.int (nar .byte (kd.toInt8.toInt32))), (.int (nar .byte ((0 : Int32).toInt8.toInt32))), (.int (nar .byte (1 : Int32))), (.int (nar .byte u3)), (.int (nar .byte (2 : Int32))), (.int (nar .byte u5)), (.int (nar .byte u6))] (.int (0 : Int32)) := Vb3_16
    have N16 := Fr.snoc X16 N15 g_b3
    have Z16 : n0 ≤ h16.size := Nat.le_trans Z15 (Nat.le_of_eq W16.size.symm)
    have K16 := K15.wr W16 (Or.inr sz_b3)
    refine Goes.via (B := T16.setTop (mkF m 130 #[.val (.long p1), .second, .val (.int p3), .val (.int (0 : Int32)), .val (.int (1 : Int32)), .val (.int (2 : Int32)), .val (.ref b3)] [])) st16 ?_
    refine Goes.via (B := T16.setTop (mkF m 132 #[.val (.long p1), .second, .val (.int p3), .val (.int (0 : Int32)), .val (.int (1 : Int32)), .val (.int (2 : Int32)), .val (.ref b3)] [(.ref b3)])) (fun t k => XS.aload X16.here hx rfl (hb hby d18_130) rfl rfl k) ?_
    have h7 : own_ok7 [(.int (nar .byte (kd.toInt8.toInt32))), (.int (nar .byte ((0 : Int32).toInt8.toInt32))), (.int (nar .byte (1 : Int32))), (.int (nar .byte u3)), (.int (nar .byte (2 : Int32))), (.int (nar .byte u5)), (.int (nar .byte u6))] (own_kd p3) (own_ta p3) (own_tr p3) (own_tc p3) := by
      have hk : (own_kd p3) = kd := hkd
      rw [own_tc, hva, hvb, hk]
      exact ⟨congrArg Value.int (own_kb (hk ▸ own_kd01 p3)), rfl, rfl, rfl⟩
    exact own_out X16 (v := some (.ref b3)) (fun h => by rw [Bd.returns] at h; cases h) Bd.notSynchronized (fun fs hr => retOut X16 hx Bd.returns rfl (Or.inr (Or.inr (Or.inr (Or.inr ⟨rfl, rfl, rfl⟩)))) (hb hby d18_132) hr) ⟨by rw [g3], N16, (by rw [e16]; exact K16), k3, [(.int (nar .byte (kd.toInt8.toInt32))), (.int (nar .byte ((0 : Int32).toInt8.toInt32))), (.int (nar .byte (1 : Int32))), (.int (nar .byte u3)), (.int (nar .byte (2 : Int32))), (.int (nar .byte u5)), (.int (nar .byte u6))], (by rw [e16, ← g3]; exact Vb3_16), h7⟩ (by decide) (by decide)
  · rw [show (((3 : Int32) - (0 : Int32)) - (2 : Int32)) = (1 : Int32) from by decide +kernel]
    refine Goes.via (B := T12.setTop (mkF m 111 #[.val (.long p1), .second, .val (.int p3), .val (.int (0 : Int32)), .val (.int (2 : Int32)), .val (.int (1 : Int32)), .val (.ref b3)] [(.ref b3)])) (fun t k => XS.aload X12.here hx rfl (hb hby d18_109) rfl rfl k) ?_
    refine Goes.via (B := T12.setTop (mkF m 112 #[.val (.long p1), .second, .val (.int p3), .val (.int (0 : Int32)), .val (.int (2 : Int32)), .val (.int (1 : Int32)), .val (.ref b3)] [(.int (2 : Int32)), (.ref b3)])) (fun t k => XS.iconst X12.here hx rfl (hb hby d18_111) k) ?_
    refine Goes.via (B := T12.setTop (mkF m 113 #[.val (.long p1), .second, .val (.int p3), .val (.int (0 : Int32)), .val (.int (2 : Int32)), .val (.int (1 : Int32)), .val (.ref b3)] [(.int (0 : Int32)), (.int (2 : Int32)), (.ref b3)])) (fun t k => XS.iloadN X12.here hx rfl (hb hby d18_112) rfl k) ?_
    refine Goes.via (B := T12.setTop (mkF m 114 #[.val (.long p1), .second, .val (.int p3), .val (.int (0 : Int32)), .val (.int (2 : Int32)), .val (.int (1 : Int32)), .val (.ref b3)] [(.int (2 : Int32)), (.ref b3)])) (fun t k => XS.iadd X12.here hx rfl (hb hby d18_113) rfl k) ?_
    refine Goes.via (B := T12.setTop (mkF m 116 #[.val (.long p1), .second, .val (.int p3), .val (.int (0 : Int32)), .val (.int (2 : Int32)), .val (.int (1 : Int32)), .val (.ref b3)] [(.int (2 : Int32)), (.int (2 : Int32)), (.ref b3)])) (fun t k => XS.iload X12.here hx rfl (hb hby d18_114) rfl k) ?_
    refine Goes.via (B := T12.setTop (mkF m 117 #[.val (.long p1), .second, .val (.int p3), .val (.int (0 : Int32)), .val (.int (2 : Int32)), .val (.int (1 : Int32)), .val (.ref b3)] [(.int ((2 : Int32).toInt8.toInt32)), (.int (2 : Int32)), (.ref b3)])) (fun t k => XS.i2b X12.here hx rfl (hb hby d18_116) rfl k) ?_
    rw [show ((2 : Int32).toInt8.toInt32) = (2 : Int32) from by decide +kernel]
    have Vc17 := Vb3_12
    obtain ⟨cl17, Ar17, q17, S17, M17, H17, G17⟩ := Vc17
    have hin17 : ¬ ((2 : Int32) < 0 ∨ cl17.slots.size ≤ ((2 : Int32)).toNatClampNeg) := inb_of S17 ⟨by decide, by decide⟩
    obtain ⟨T17, h17, X17, e17, W17, st17⟩ := stB X12 hx hZ e12 Ar17 (j := (2 : Int32)) hin17 (g := (mkF m 117 #[.val (.long p1), .second, .val (.int p3), .val (.int (0 : Int32)), .val (.int (2 : Int32)), .val (.int (1 : Int32)), .val (.ref b3)] [(.int (2 : Int32)), (.int (2 : Int32)), (.ref b3)])) rfl rfl (hb hby d18_117)
    have Vb3_17 := Arv.set Ar17 q17 S17 M17 H17 G17 (fits_nar_byte _) W17 2 rfl (Nat.le_of_ble_eq_true rfl)
    replace Vb3_17 : Arv Z h17 b3 k3 .byte (7 : Int32) [(.int (nar .byte (kd.toInt8.toInt32))), (.int (nar .byte ((0 : Int32).toInt8.toInt32))), (.int (nar .byte (2 : Int32))), (.int (nar .byte u3)), (.int (nar .byte u4)), (.int (nar .byte u5)), (.int (nar .byte u6))] (.int (0 : Int32)) := Vb3_17
    have N17 := Fr.snoc X17 N12 g_b3
    have Z17 : n0 ≤ h17.size := Nat.le_trans Z12 (Nat.le_of_eq W17.size.symm)
    have K17 := K12.wr W17 (Or.inr sz_b3)
    refine Goes.via (B := T17.setTop (mkF m 118 #[.val (.long p1), .second, .val (.int p3), .val (.int (0 : Int32)), .val (.int (2 : Int32)), .val (.int (1 : Int32)), .val (.ref b3)] [])) st17 ?_
    refine Goes.via (B := T17.setTop (mkF m 120 #[.val (.long p1), .second, .val (.int p3), .val (.int (0 : Int32)), .val (.int (2 : Int32)), .val (.int (1 : Int32)), .val (.ref b3)] [(.ref b3)])) (fun t k => XS.aload X17.here hx rfl (hb hby d18_118) rfl rfl k) ?_
    refine Goes.via (B := T17.setTop (mkF m 121 #[.val (.long p1), .second, .val (.int p3), .val (.int (0 : Int32)), .val (.int (2 : Int32)), .val (.int (1 : Int32)), .val (.ref b3)] [(.int (3 : Int32)), (.ref b3)])) (fun t k => XS.iconst X17.here hx rfl (hb hby d18_120) k) ?_
    refine Goes.via (B := T17.setTop (mkF m 122 #[.val (.long p1), .second, .val (.int p3), .val (.int (0 : Int32)), .val (.int (2 : Int32)), .val (.int (1 : Int32)), .val (.ref b3)] [(.int (0 : Int32)), (.int (3 : Int32)), (.ref b3)])) (fun t k => XS.iloadN X17.here hx rfl (hb hby d18_121) rfl k) ?_
    refine Goes.via (B := T17.setTop (mkF m 123 #[.val (.long p1), .second, .val (.int p3), .val (.int (0 : Int32)), .val (.int (2 : Int32)), .val (.int (1 : Int32)), .val (.ref b3)] [(.int (3 : Int32)), (.ref b3)])) (fun t k => XS.iadd X17.here hx rfl (hb hby d18_122) rfl k) ?_
    refine Goes.via (B := T17.setTop (mkF m 125 #[.val (.long p1), .second, .val (.int p3), .val (.int (0 : Int32)), .val (.int (2 : Int32)), .val (.int (1 : Int32)), .val (.ref b3)] [(.int (2 : Int32)), (.int (3 : Int32)), (.ref b3)])) (fun t k => XS.iload X17.here hx rfl (hb hby d18_123) rfl k) ?_
    refine Goes.via (B := T17.setTop (mkF m 126 #[.val (.long p1), .second, .val (.int p3), .val (.int (0 : Int32)), .val (.int (2 : Int32)), .val (.int (1 : Int32)), .val (.ref b3)] [(.int (5 : Int32)), (.ref b3)])) (fun t k => XS.iadd X17.here hx rfl (hb hby d18_125) rfl k) ?_
    refine Goes.via (B := T17.setTop (mkF m 128 #[.val (.long p1), .second, .val (.int p3), .val (.int (0 : Int32)), .val (.int (2 : Int32)), .val (.int (1 : Int32)), .val (.ref b3)] [(.int (1 : Int32)), (.int (5 : Int32)), (.ref b3)])) (fun t k => XS.iload X17.here hx rfl (hb hby d18_126) rfl k) ?_
    refine Goes.via (B := T17.setTop (mkF m 129 #[.val (.long p1), .second, .val (.int p3), .val (.int (0 : Int32)), .val (.int (2 : Int32)), .val (.int (1 : Int32)), .val (.ref b3)] [(.int ((1 : Int32).toInt8.toInt32)), (.int (5 : Int32)), (.ref b3)])) (fun t k => XS.i2b X17.here hx rfl (hb hby d18_128) rfl k) ?_
    rw [show ((1 : Int32).toInt8.toInt32) = (1 : Int32) from by decide +kernel]
    have Vc18 := Vb3_17
    obtain ⟨cl18, Ar18, q18, S18, M18, H18, G18⟩ := Vc18
    have hin18 : ¬ ((5 : Int32) < 0 ∨ cl18.slots.size ≤ ((5 : Int32)).toNatClampNeg) := inb_of S18 ⟨by decide, by decide⟩
    obtain ⟨T18, h18, X18, e18, W18, st18⟩ := stB X17 hx hZ e17 Ar18 (j := (5 : Int32)) hin18 (g := (mkF m 129 #[.val (.long p1), .second, .val (.int p3), .val (.int (0 : Int32)), .val (.int (2 : Int32)), .val (.int (1 : Int32)), .val (.ref b3)] [(.int (1 : Int32)), (.int (5 : Int32)), (.ref b3)])) rfl rfl (hb hby d18_129)
    have Vb3_18 := Arv.set Ar18 q18 S18 M18 H18 G18 (fits_nar_byte _) W18 5 rfl (Nat.le_of_ble_eq_true rfl)
    replace Vb3_18 : Arv Z h18 b3 k3 .byte (7 : Int32) [(.int (nar .byte (kd.toInt8.toInt32))), (.int (nar .byte ((0 : Int32).toInt8.toInt32))), (.int (nar .byte (2 : Int32))), (.int (nar .byte u3)), (.int (nar .byte u4)), (.int (nar .byte (1 : Int32))), (.int (nar .byte u6))] (.int (0 : Int32)) := Vb3_18
    have N18 := Fr.snoc X18 N17 g_b3
    have Z18 : n0 ≤ h18.size := Nat.le_trans Z17 (Nat.le_of_eq W18.size.symm)
    have K18 := K17.wr W18 (Or.inr sz_b3)
    refine Goes.via (B := T18.setTop (mkF m 130 #[.val (.long p1), .second, .val (.int p3), .val (.int (0 : Int32)), .val (.int (2 : Int32)), .val (.int (1 : Int32)), .val (.ref b3)] [])) st18 ?_
    refine Goes.via (B := T18.setTop (mkF m 132 #[.val (.long p1), .second, .val (.int p3), .val (.int (0 : Int32)), .val (.int (2 : Int32)), .val (.int (1 : Int32)), .val (.ref b3)] [(.ref b3)])) (fun t k => XS.aload X18.here hx rfl (hb hby d18_130) rfl rfl k) ?_
    have h7 : own_ok7 [(.int (nar .byte (kd.toInt8.toInt32))), (.int (nar .byte ((0 : Int32).toInt8.toInt32))), (.int (nar .byte (2 : Int32))), (.int (nar .byte u3)), (.int (nar .byte u4)), (.int (nar .byte (1 : Int32))), (.int (nar .byte u6))] (own_kd p3) (own_ta p3) (own_tr p3) (own_tc p3) := by
      have hk : (own_kd p3) = kd := hkd
      rw [own_tc, hva, hvb, hk]
      exact ⟨congrArg Value.int (own_kb (hk ▸ own_kd01 p3)), rfl, rfl, rfl⟩
    exact own_out X18 (v := some (.ref b3)) (fun h => by rw [Bd.returns] at h; cases h) Bd.notSynchronized (fun fs hr => retOut X18 hx Bd.returns rfl (Or.inr (Or.inr (Or.inr (Or.inr ⟨rfl, rfl, rfl⟩)))) (hb hby d18_132) hr) ⟨by rw [g3], N18, (by rw [e18]; exact K18), k3, [(.int (nar .byte (kd.toInt8.toInt32))), (.int (nar .byte ((0 : Int32).toInt8.toInt32))), (.int (nar .byte (2 : Int32))), (.int (nar .byte u3)), (.int (nar .byte u4)), (.int (nar .byte (1 : Int32))), (.int (nar .byte u6))], (by rw [e18, ← g3]; exact Vb3_18), h7⟩ (by decide) (by decide)
  · rw [show (((3 : Int32) - (0 : Int32)) - (3 : Int32)) = (0 : Int32) from by decide +kernel]
    refine Goes.via (B := T12.setTop (mkF m 111 #[.val (.long p1), .second, .val (.int p3), .val (.int (0 : Int32)), .val (.int (3 : Int32)), .val (.int (0 : Int32)), .val (.ref b3)] [(.ref b3)])) (fun t k => XS.aload X12.here hx rfl (hb hby d18_109) rfl rfl k) ?_
    refine Goes.via (B := T12.setTop (mkF m 112 #[.val (.long p1), .second, .val (.int p3), .val (.int (0 : Int32)), .val (.int (3 : Int32)), .val (.int (0 : Int32)), .val (.ref b3)] [(.int (2 : Int32)), (.ref b3)])) (fun t k => XS.iconst X12.here hx rfl (hb hby d18_111) k) ?_
    refine Goes.via (B := T12.setTop (mkF m 113 #[.val (.long p1), .second, .val (.int p3), .val (.int (0 : Int32)), .val (.int (3 : Int32)), .val (.int (0 : Int32)), .val (.ref b3)] [(.int (0 : Int32)), (.int (2 : Int32)), (.ref b3)])) (fun t k => XS.iloadN X12.here hx rfl (hb hby d18_112) rfl k) ?_
    refine Goes.via (B := T12.setTop (mkF m 114 #[.val (.long p1), .second, .val (.int p3), .val (.int (0 : Int32)), .val (.int (3 : Int32)), .val (.int (0 : Int32)), .val (.ref b3)] [(.int (2 : Int32)), (.ref b3)])) (fun t k => XS.iadd X12.here hx rfl (hb hby d18_113) rfl k) ?_
    refine Goes.via (B := T12.setTop (mkF m 116 #[.val (.long p1), .second, .val (.int p3), .val (.int (0 : Int32)), .val (.int (3 : Int32)), .val (.int (0 : Int32)), .val (.ref b3)] [(.int (3 : Int32)), (.int (2 : Int32)), (.ref b3)])) (fun t k => XS.iload X12.here hx rfl (hb hby d18_114) rfl k) ?_
    refine Goes.via (B := T12.setTop (mkF m 117 #[.val (.long p1), .second, .val (.int p3), .val (.int (0 : Int32)), .val (.int (3 : Int32)), .val (.int (0 : Int32)), .val (.ref b3)] [(.int ((3 : Int32).toInt8.toInt32)), (.int (2 : Int32)), (.ref b3)])) (fun t k => XS.i2b X12.here hx rfl (hb hby d18_116) rfl k) ?_
    rw [show ((3 : Int32).toInt8.toInt32) = (3 : Int32) from by decide +kernel]
    have Vc19 := Vb3_12
    obtain ⟨cl19, Ar19, q19, S19, M19, H19, G19⟩ := Vc19
    have hin19 : ¬ ((2 : Int32) < 0 ∨ cl19.slots.size ≤ ((2 : Int32)).toNatClampNeg) := inb_of S19 ⟨by decide, by decide⟩
    obtain ⟨T19, h19, X19, e19, W19, st19⟩ := stB X12 hx hZ e12 Ar19 (j := (2 : Int32)) hin19 (g := (mkF m 117 #[.val (.long p1), .second, .val (.int p3), .val (.int (0 : Int32)), .val (.int (3 : Int32)), .val (.int (0 : Int32)), .val (.ref b3)] [(.int (3 : Int32)), (.int (2 : Int32)), (.ref b3)])) rfl rfl (hb hby d18_117)
    have Vb3_19 := Arv.set Ar19 q19 S19 M19 H19 G19 (fits_nar_byte _) W19 2 rfl (Nat.le_of_ble_eq_true rfl)
    replace Vb3_19 : Arv Z h19 b3 k3 .byte (7 : Int32) [(.int (nar .byte (kd.toInt8.toInt32))), (.int (nar .byte ((0 : Int32).toInt8.toInt32))), (.int (nar .byte (3 : Int32))), (.int (nar .byte u3)), (.int (nar .byte u4)), (.int (nar .byte u5)), (.int (nar .byte u6))] (.int (0 : Int32)) := Vb3_19
    have N19 := Fr.snoc X19 N12 g_b3
    have Z19 : n0 ≤ h19.size := Nat.le_trans Z12 (Nat.le_of_eq W19.size.symm)
    have K19 := K12.wr W19 (Or.inr sz_b3)
    refine Goes.via (B := T19.setTop (mkF m 118 #[.val (.long p1), .second, .val (.int p3), .val (.int (0 : Int32)), .val (.int (3 : Int32)), .val (.int (0 : Int32)), .val (.ref b3)] [])) st19 ?_
    refine Goes.via (B := T19.setTop (mkF m 120 #[.val (.long p1), .second, .val (.int p3), .val (.int (0 : Int32)), .val (.int (3 : Int32)), .val (.int (0 : Int32)), .val (.ref b3)] [(.ref b3)])) (fun t k => XS.aload X19.here hx rfl (hb hby d18_118) rfl rfl k) ?_
    refine Goes.via (B := T19.setTop (mkF m 121 #[.val (.long p1), .second, .val (.int p3), .val (.int (0 : Int32)), .val (.int (3 : Int32)), .val (.int (0 : Int32)), .val (.ref b3)] [(.int (3 : Int32)), (.ref b3)])) (fun t k => XS.iconst X19.here hx rfl (hb hby d18_120) k) ?_
    refine Goes.via (B := T19.setTop (mkF m 122 #[.val (.long p1), .second, .val (.int p3), .val (.int (0 : Int32)), .val (.int (3 : Int32)), .val (.int (0 : Int32)), .val (.ref b3)] [(.int (0 : Int32)), (.int (3 : Int32)), (.ref b3)])) (fun t k => XS.iloadN X19.here hx rfl (hb hby d18_121) rfl k) ?_
    refine Goes.via (B := T19.setTop (mkF m 123 #[.val (.long p1), .second, .val (.int p3), .val (.int (0 : Int32)), .val (.int (3 : Int32)), .val (.int (0 : Int32)), .val (.ref b3)] [(.int (3 : Int32)), (.ref b3)])) (fun t k => XS.iadd X19.here hx rfl (hb hby d18_122) rfl k) ?_
    refine Goes.via (B := T19.setTop (mkF m 125 #[.val (.long p1), .second, .val (.int p3), .val (.int (0 : Int32)), .val (.int (3 : Int32)), .val (.int (0 : Int32)), .val (.ref b3)] [(.int (3 : Int32)), (.int (3 : Int32)), (.ref b3)])) (fun t k => XS.iload X19.here hx rfl (hb hby d18_123) rfl k) ?_
    refine Goes.via (B := T19.setTop (mkF m 126 #[.val (.long p1), .second, .val (.int p3), .val (.int (0 : Int32)), .val (.int (3 : Int32)), .val (.int (0 : Int32)), .val (.ref b3)] [(.int (6 : Int32)), (.ref b3)])) (fun t k => XS.iadd X19.here hx rfl (hb hby d18_125) rfl k) ?_
    refine Goes.via (B := T19.setTop (mkF m 128 #[.val (.long p1), .second, .val (.int p3), .val (.int (0 : Int32)), .val (.int (3 : Int32)), .val (.int (0 : Int32)), .val (.ref b3)] [(.int (0 : Int32)), (.int (6 : Int32)), (.ref b3)])) (fun t k => XS.iload X19.here hx rfl (hb hby d18_126) rfl k) ?_
    refine Goes.via (B := T19.setTop (mkF m 129 #[.val (.long p1), .second, .val (.int p3), .val (.int (0 : Int32)), .val (.int (3 : Int32)), .val (.int (0 : Int32)), .val (.ref b3)] [(.int ((0 : Int32).toInt8.toInt32)), (.int (6 : Int32)), (.ref b3)])) (fun t k => XS.i2b X19.here hx rfl (hb hby d18_128) rfl k) ?_
    rw [show ((0 : Int32).toInt8.toInt32) = (0 : Int32) from by decide +kernel]
    have Vc20 := Vb3_19
    obtain ⟨cl20, Ar20, q20, S20, M20, H20, G20⟩ := Vc20
    have hin20 : ¬ ((6 : Int32) < 0 ∨ cl20.slots.size ≤ ((6 : Int32)).toNatClampNeg) := inb_of S20 ⟨by decide, by decide⟩
    obtain ⟨T20, h20, X20, e20, W20, st20⟩ := stB X19 hx hZ e19 Ar20 (j := (6 : Int32)) hin20 (g := (mkF m 129 #[.val (.long p1), .second, .val (.int p3), .val (.int (0 : Int32)), .val (.int (3 : Int32)), .val (.int (0 : Int32)), .val (.ref b3)] [(.int (0 : Int32)), (.int (6 : Int32)), (.ref b3)])) rfl rfl (hb hby d18_129)
    have Vb3_20 := Arv.set Ar20 q20 S20 M20 H20 G20 (fits_nar_byte _) W20 6 rfl (Nat.le_of_ble_eq_true rfl)
    replace Vb3_20 : Arv Z h20 b3 k3 .byte (7 : Int32) [(.int (nar .byte (kd.toInt8.toInt32))), (.int (nar .byte ((0 : Int32).toInt8.toInt32))), (.int (nar .byte (3 : Int32))), (.int (nar .byte u3)), (.int (nar .byte u4)), (.int (nar .byte u5)), (.int (nar .byte (0 : Int32)))] (.int (0 : Int32)) := Vb3_20
    have N20 := Fr.snoc X20 N19 g_b3
    have Z20 : n0 ≤ h20.size := Nat.le_trans Z19 (Nat.le_of_eq W20.size.symm)
    have K20 := K19.wr W20 (Or.inr sz_b3)
    refine Goes.via (B := T20.setTop (mkF m 130 #[.val (.long p1), .second, .val (.int p3), .val (.int (0 : Int32)), .val (.int (3 : Int32)), .val (.int (0 : Int32)), .val (.ref b3)] [])) st20 ?_
    refine Goes.via (B := T20.setTop (mkF m 132 #[.val (.long p1), .second, .val (.int p3), .val (.int (0 : Int32)), .val (.int (3 : Int32)), .val (.int (0 : Int32)), .val (.ref b3)] [(.ref b3)])) (fun t k => XS.aload X20.here hx rfl (hb hby d18_130) rfl rfl k) ?_
    have h7 : own_ok7 [(.int (nar .byte (kd.toInt8.toInt32))), (.int (nar .byte ((0 : Int32).toInt8.toInt32))), (.int (nar .byte (3 : Int32))), (.int (nar .byte u3)), (.int (nar .byte u4)), (.int (nar .byte u5)), (.int (nar .byte (0 : Int32)))] (own_kd p3) (own_ta p3) (own_tr p3) (own_tc p3) := by
      have hk : (own_kd p3) = kd := hkd
      rw [own_tc, hva, hvb, hk]
      exact ⟨congrArg Value.int (own_kb (hk ▸ own_kd01 p3)), rfl, rfl, rfl⟩
    exact own_out X20 (v := some (.ref b3)) (fun h => by rw [Bd.returns] at h; cases h) Bd.notSynchronized (fun fs hr => retOut X20 hx Bd.returns rfl (Or.inr (Or.inr (Or.inr (Or.inr ⟨rfl, rfl, rfl⟩)))) (hb hby d18_132) hr) ⟨by rw [g3], N20, (by rw [e20]; exact K20), k3, [(.int (nar .byte (kd.toInt8.toInt32))), (.int (nar .byte ((0 : Int32).toInt8.toInt32))), (.int (nar .byte (3 : Int32))), (.int (nar .byte u3)), (.int (nar .byte u4)), (.int (nar .byte u5)), (.int (nar .byte (0 : Int32)))], (by rw [e20, ← g3]; exact Vb3_20), h7⟩ (by decide) (by decide)
  · rw [show (((3 : Int32) - (1 : Int32)) - (0 : Int32)) = (2 : Int32) from by decide +kernel]
    refine Goes.via (B := T12.setTop (mkF m 111 #[.val (.long p1), .second, .val (.int p3), .val (.int (1 : Int32)), .val (.int (0 : Int32)), .val (.int (2 : Int32)), .val (.ref b3)] [(.ref b3)])) (fun t k => XS.aload X12.here hx rfl (hb hby d18_109) rfl rfl k) ?_
    refine Goes.via (B := T12.setTop (mkF m 112 #[.val (.long p1), .second, .val (.int p3), .val (.int (1 : Int32)), .val (.int (0 : Int32)), .val (.int (2 : Int32)), .val (.ref b3)] [(.int (2 : Int32)), (.ref b3)])) (fun t k => XS.iconst X12.here hx rfl (hb hby d18_111) k) ?_
    refine Goes.via (B := T12.setTop (mkF m 113 #[.val (.long p1), .second, .val (.int p3), .val (.int (1 : Int32)), .val (.int (0 : Int32)), .val (.int (2 : Int32)), .val (.ref b3)] [(.int (1 : Int32)), (.int (2 : Int32)), (.ref b3)])) (fun t k => XS.iloadN X12.here hx rfl (hb hby d18_112) rfl k) ?_
    refine Goes.via (B := T12.setTop (mkF m 114 #[.val (.long p1), .second, .val (.int p3), .val (.int (1 : Int32)), .val (.int (0 : Int32)), .val (.int (2 : Int32)), .val (.ref b3)] [(.int (3 : Int32)), (.ref b3)])) (fun t k => XS.iadd X12.here hx rfl (hb hby d18_113) rfl k) ?_
    refine Goes.via (B := T12.setTop (mkF m 116 #[.val (.long p1), .second, .val (.int p3), .val (.int (1 : Int32)), .val (.int (0 : Int32)), .val (.int (2 : Int32)), .val (.ref b3)] [(.int (0 : Int32)), (.int (3 : Int32)), (.ref b3)])) (fun t k => XS.iload X12.here hx rfl (hb hby d18_114) rfl k) ?_
    refine Goes.via (B := T12.setTop (mkF m 117 #[.val (.long p1), .second, .val (.int p3), .val (.int (1 : Int32)), .val (.int (0 : Int32)), .val (.int (2 : Int32)), .val (.ref b3)] [(.int ((0 : Int32).toInt8.toInt32)), (.int (3 : Int32)), (.ref b3)])) (fun t k => XS.i2b X12.here hx rfl (hb hby d18_116) rfl k) ?_
    rw [show ((0 : Int32).toInt8.toInt32) = (0 : Int32) from by decide +kernel]
    have Vc21 := Vb3_12
    obtain ⟨cl21, Ar21, q21, S21, M21, H21, G21⟩ := Vc21
    have hin21 : ¬ ((3 : Int32) < 0 ∨ cl21.slots.size ≤ ((3 : Int32)).toNatClampNeg) := inb_of S21 ⟨by decide, by decide⟩
    obtain ⟨T21, h21, X21, e21, W21, st21⟩ := stB X12 hx hZ e12 Ar21 (j := (3 : Int32)) hin21 (g := (mkF m 117 #[.val (.long p1), .second, .val (.int p3), .val (.int (1 : Int32)), .val (.int (0 : Int32)), .val (.int (2 : Int32)), .val (.ref b3)] [(.int (0 : Int32)), (.int (3 : Int32)), (.ref b3)])) rfl rfl (hb hby d18_117)
    have Vb3_21 := Arv.set Ar21 q21 S21 M21 H21 G21 (fits_nar_byte _) W21 3 rfl (Nat.le_of_ble_eq_true rfl)
    replace Vb3_21 : Arv Z h21 b3 k3 .byte (7 : Int32) [(.int (nar .byte (kd.toInt8.toInt32))), (.int (nar .byte ((1 : Int32).toInt8.toInt32))), (.int (nar .byte u2)), (.int (nar .byte (0 : Int32))), (.int (nar .byte u4)), (.int (nar .byte u5)), (.int (nar .byte u6))] (.int (0 : Int32)) := Vb3_21
    have N21 := Fr.snoc X21 N12 g_b3
    have Z21 : n0 ≤ h21.size := Nat.le_trans Z12 (Nat.le_of_eq W21.size.symm)
    have K21 := K12.wr W21 (Or.inr sz_b3)
    refine Goes.via (B := T21.setTop (mkF m 118 #[.val (.long p1), .second, .val (.int p3), .val (.int (1 : Int32)), .val (.int (0 : Int32)), .val (.int (2 : Int32)), .val (.ref b3)] [])) st21 ?_
    refine Goes.via (B := T21.setTop (mkF m 120 #[.val (.long p1), .second, .val (.int p3), .val (.int (1 : Int32)), .val (.int (0 : Int32)), .val (.int (2 : Int32)), .val (.ref b3)] [(.ref b3)])) (fun t k => XS.aload X21.here hx rfl (hb hby d18_118) rfl rfl k) ?_
    refine Goes.via (B := T21.setTop (mkF m 121 #[.val (.long p1), .second, .val (.int p3), .val (.int (1 : Int32)), .val (.int (0 : Int32)), .val (.int (2 : Int32)), .val (.ref b3)] [(.int (3 : Int32)), (.ref b3)])) (fun t k => XS.iconst X21.here hx rfl (hb hby d18_120) k) ?_
    refine Goes.via (B := T21.setTop (mkF m 122 #[.val (.long p1), .second, .val (.int p3), .val (.int (1 : Int32)), .val (.int (0 : Int32)), .val (.int (2 : Int32)), .val (.ref b3)] [(.int (1 : Int32)), (.int (3 : Int32)), (.ref b3)])) (fun t k => XS.iloadN X21.here hx rfl (hb hby d18_121) rfl k) ?_
    refine Goes.via (B := T21.setTop (mkF m 123 #[.val (.long p1), .second, .val (.int p3), .val (.int (1 : Int32)), .val (.int (0 : Int32)), .val (.int (2 : Int32)), .val (.ref b3)] [(.int (4 : Int32)), (.ref b3)])) (fun t k => XS.iadd X21.here hx rfl (hb hby d18_122) rfl k) ?_
    refine Goes.via (B := T21.setTop (mkF m 125 #[.val (.long p1), .second, .val (.int p3), .val (.int (1 : Int32)), .val (.int (0 : Int32)), .val (.int (2 : Int32)), .val (.ref b3)] [(.int (0 : Int32)), (.int (4 : Int32)), (.ref b3)])) (fun t k => XS.iload X21.here hx rfl (hb hby d18_123) rfl k) ?_
    refine Goes.via (B := T21.setTop (mkF m 126 #[.val (.long p1), .second, .val (.int p3), .val (.int (1 : Int32)), .val (.int (0 : Int32)), .val (.int (2 : Int32)), .val (.ref b3)] [(.int (4 : Int32)), (.ref b3)])) (fun t k => XS.iadd X21.here hx rfl (hb hby d18_125) rfl k) ?_
    refine Goes.via (B := T21.setTop (mkF m 128 #[.val (.long p1), .second, .val (.int p3), .val (.int (1 : Int32)), .val (.int (0 : Int32)), .val (.int (2 : Int32)), .val (.ref b3)] [(.int (2 : Int32)), (.int (4 : Int32)), (.ref b3)])) (fun t k => XS.iload X21.here hx rfl (hb hby d18_126) rfl k) ?_
    refine Goes.via (B := T21.setTop (mkF m 129 #[.val (.long p1), .second, .val (.int p3), .val (.int (1 : Int32)), .val (.int (0 : Int32)), .val (.int (2 : Int32)), .val (.ref b3)] [(.int ((2 : Int32).toInt8.toInt32)), (.int (4 : Int32)), (.ref b3)])) (fun t k => XS.i2b X21.here hx rfl (hb hby d18_128) rfl k) ?_
    rw [show ((2 : Int32).toInt8.toInt32) = (2 : Int32) from by decide +kernel]
    have Vc22 := Vb3_21
    obtain ⟨cl22, Ar22, q22, S22, M22, H22, G22⟩ := Vc22
    have hin22 : ¬ ((4 : Int32) < 0 ∨ cl22.slots.size ≤ ((4 : Int32)).toNatClampNeg) := inb_of S22 ⟨by decide, by decide⟩
    obtain ⟨T22, h22, X22, e22, W22, st22⟩ := stB X21 hx hZ e21 Ar22 (j := (4 : Int32)) hin22 (g := (mkF m 129 #[.val (.long p1), .second, .val (.int p3), .val (.int (1 : Int32)), .val (.int (0 : Int32)), .val (.int (2 : Int32)), .val (.ref b3)] [(.int (2 : Int32)), (.int (4 : Int32)), (.ref b3)])) rfl rfl (hb hby d18_129)
    have Vb3_22 := Arv.set Ar22 q22 S22 M22 H22 G22 (fits_nar_byte _) W22 4 rfl (Nat.le_of_ble_eq_true rfl)
    replace Vb3_22 : Arv Z h22 b3 k3 .byte (7 : Int32) [(.int (nar .byte (kd.toInt8.toInt32))), (.int (nar .byte ((1 : Int32).toInt8.toInt32))), (.int (nar .byte u2)), (.int (nar .byte (0 : Int32))), (.int (nar .byte (2 : Int32))), (.int (nar .byte u5)), (.int (nar .byte u6))] (.int (0 : Int32)) := Vb3_22
    have N22 := Fr.snoc X22 N21 g_b3
    have Z22 : n0 ≤ h22.size := Nat.le_trans Z21 (Nat.le_of_eq W22.size.symm)
    have K22 := K21.wr W22 (Or.inr sz_b3)
    refine Goes.via (B := T22.setTop (mkF m 130 #[.val (.long p1), .second, .val (.int p3), .val (.int (1 : Int32)), .val (.int (0 : Int32)), .val (.int (2 : Int32)), .val (.ref b3)] [])) st22 ?_
    refine Goes.via (B := T22.setTop (mkF m 132 #[.val (.long p1), .second, .val (.int p3), .val (.int (1 : Int32)), .val (.int (0 : Int32)), .val (.int (2 : Int32)), .val (.ref b3)] [(.ref b3)])) (fun t k => XS.aload X22.here hx rfl (hb hby d18_130) rfl rfl k) ?_
    have h7 : own_ok7 [(.int (nar .byte (kd.toInt8.toInt32))), (.int (nar .byte ((1 : Int32).toInt8.toInt32))), (.int (nar .byte u2)), (.int (nar .byte (0 : Int32))), (.int (nar .byte (2 : Int32))), (.int (nar .byte u5)), (.int (nar .byte u6))] (own_kd p3) (own_ta p3) (own_tr p3) (own_tc p3) := by
      have hk : (own_kd p3) = kd := hkd
      rw [own_tc, hva, hvb, hk]
      exact ⟨congrArg Value.int (own_kb (hk ▸ own_kd01 p3)), rfl, rfl, rfl⟩
    exact own_out X22 (v := some (.ref b3)) (fun h => by rw [Bd.returns] at h; cases h) Bd.notSynchronized (fun fs hr => retOut X22 hx Bd.returns rfl (Or.inr (Or.inr (Or.inr (Or.inr ⟨rfl, rfl, rfl⟩)))) (hb hby d18_132) hr) ⟨by rw [g3], N22, (by rw [e22]; exact K22), k3, [(.int (nar .byte (kd.toInt8.toInt32))), (.int (nar .byte ((1 : Int32).toInt8.toInt32))), (.int (nar .byte u2)), (.int (nar .byte (0 : Int32))), (.int (nar .byte (2 : Int32))), (.int (nar .byte u5)), (.int (nar .byte u6))], (by rw [e22, ← g3]; exact Vb3_22), h7⟩ (by decide) (by decide)
  · rw [show (((3 : Int32) - (1 : Int32)) - (1 : Int32)) = (1 : Int32) from by decide +kernel]
    refine Goes.via (B := T12.setTop (mkF m 111 #[.val (.long p1), .second, .val (.int p3), .val (.int (1 : Int32)), .val (.int (1 : Int32)), .val (.int (1 : Int32)), .val (.ref b3)] [(.ref b3)])) (fun t k => XS.aload X12.here hx rfl (hb hby d18_109) rfl rfl k) ?_
    refine Goes.via (B := T12.setTop (mkF m 112 #[.val (.long p1), .second, .val (.int p3), .val (.int (1 : Int32)), .val (.int (1 : Int32)), .val (.int (1 : Int32)), .val (.ref b3)] [(.int (2 : Int32)), (.ref b3)])) (fun t k => XS.iconst X12.here hx rfl (hb hby d18_111) k) ?_
    refine Goes.via (B := T12.setTop (mkF m 113 #[.val (.long p1), .second, .val (.int p3), .val (.int (1 : Int32)), .val (.int (1 : Int32)), .val (.int (1 : Int32)), .val (.ref b3)] [(.int (1 : Int32)), (.int (2 : Int32)), (.ref b3)])) (fun t k => XS.iloadN X12.here hx rfl (hb hby d18_112) rfl k) ?_
    refine Goes.via (B := T12.setTop (mkF m 114 #[.val (.long p1), .second, .val (.int p3), .val (.int (1 : Int32)), .val (.int (1 : Int32)), .val (.int (1 : Int32)), .val (.ref b3)] [(.int (3 : Int32)), (.ref b3)])) (fun t k => XS.iadd X12.here hx rfl (hb hby d18_113) rfl k) ?_
    refine Goes.via (B := T12.setTop (mkF m 116 #[.val (.long p1), .second, .val (.int p3), .val (.int (1 : Int32)), .val (.int (1 : Int32)), .val (.int (1 : Int32)), .val (.ref b3)] [(.int (1 : Int32)), (.int (3 : Int32)), (.ref b3)])) (fun t k => XS.iload X12.here hx rfl (hb hby d18_114) rfl k) ?_
    refine Goes.via (B := T12.setTop (mkF m 117 #[.val (.long p1), .second, .val (.int p3), .val (.int (1 : Int32)), .val (.int (1 : Int32)), .val (.int (1 : Int32)), .val (.ref b3)] [(.int ((1 : Int32).toInt8.toInt32)), (.int (3 : Int32)), (.ref b3)])) (fun t k => XS.i2b X12.here hx rfl (hb hby d18_116) rfl k) ?_
    rw [show ((1 : Int32).toInt8.toInt32) = (1 : Int32) from by decide +kernel]
    have Vc23 := Vb3_12
    obtain ⟨cl23, Ar23, q23, S23, M23, H23, G23⟩ := Vc23
    have hin23 : ¬ ((3 : Int32) < 0 ∨ cl23.slots.size ≤ ((3 : Int32)).toNatClampNeg) := inb_of S23 ⟨by decide, by decide⟩
    obtain ⟨T23, h23, X23, e23, W23, st23⟩ := stB X12 hx hZ e12 Ar23 (j := (3 : Int32)) hin23 (g := (mkF m 117 #[.val (.long p1), .second, .val (.int p3), .val (.int (1 : Int32)), .val (.int (1 : Int32)), .val (.int (1 : Int32)), .val (.ref b3)] [(.int (1 : Int32)), (.int (3 : Int32)), (.ref b3)])) rfl rfl (hb hby d18_117)
    have Vb3_23 := Arv.set Ar23 q23 S23 M23 H23 G23 (fits_nar_byte _) W23 3 rfl (Nat.le_of_ble_eq_true rfl)
    replace Vb3_23 : Arv Z h23 b3 k3 .byte (7 : Int32) [(.int (nar .byte (kd.toInt8.toInt32))), (.int (nar .byte ((1 : Int32).toInt8.toInt32))), (.int (nar .byte u2)), (.int (nar .byte (1 : Int32))), (.int (nar .byte u4)), (.int (nar .byte u5)), (.int (nar .byte u6))] (.int (0 : Int32)) := Vb3_23
    have N23 := Fr.snoc X23 N12 g_b3
    have Z23 : n0 ≤ h23.size := Nat.le_trans Z12 (Nat.le_of_eq W23.size.symm)
    have K23 := K12.wr W23 (Or.inr sz_b3)
    refine Goes.via (B := T23.setTop (mkF m 118 #[.val (.long p1), .second, .val (.int p3), .val (.int (1 : Int32)), .val (.int (1 : Int32)), .val (.int (1 : Int32)), .val (.ref b3)] [])) st23 ?_
    refine Goes.via (B := T23.setTop (mkF m 120 #[.val (.long p1), .second, .val (.int p3), .val (.int (1 : Int32)), .val (.int (1 : Int32)), .val (.int (1 : Int32)), .val (.ref b3)] [(.ref b3)])) (fun t k => XS.aload X23.here hx rfl (hb hby d18_118) rfl rfl k) ?_
    refine Goes.via (B := T23.setTop (mkF m 121 #[.val (.long p1), .second, .val (.int p3), .val (.int (1 : Int32)), .val (.int (1 : Int32)), .val (.int (1 : Int32)), .val (.ref b3)] [(.int (3 : Int32)), (.ref b3)])) (fun t k => XS.iconst X23.here hx rfl (hb hby d18_120) k) ?_
    refine Goes.via (B := T23.setTop (mkF m 122 #[.val (.long p1), .second, .val (.int p3), .val (.int (1 : Int32)), .val (.int (1 : Int32)), .val (.int (1 : Int32)), .val (.ref b3)] [(.int (1 : Int32)), (.int (3 : Int32)), (.ref b3)])) (fun t k => XS.iloadN X23.here hx rfl (hb hby d18_121) rfl k) ?_
    refine Goes.via (B := T23.setTop (mkF m 123 #[.val (.long p1), .second, .val (.int p3), .val (.int (1 : Int32)), .val (.int (1 : Int32)), .val (.int (1 : Int32)), .val (.ref b3)] [(.int (4 : Int32)), (.ref b3)])) (fun t k => XS.iadd X23.here hx rfl (hb hby d18_122) rfl k) ?_
    refine Goes.via (B := T23.setTop (mkF m 125 #[.val (.long p1), .second, .val (.int p3), .val (.int (1 : Int32)), .val (.int (1 : Int32)), .val (.int (1 : Int32)), .val (.ref b3)] [(.int (1 : Int32)), (.int (4 : Int32)), (.ref b3)])) (fun t k => XS.iload X23.here hx rfl (hb hby d18_123) rfl k) ?_
    refine Goes.via (B := T23.setTop (mkF m 126 #[.val (.long p1), .second, .val (.int p3), .val (.int (1 : Int32)), .val (.int (1 : Int32)), .val (.int (1 : Int32)), .val (.ref b3)] [(.int (5 : Int32)), (.ref b3)])) (fun t k => XS.iadd X23.here hx rfl (hb hby d18_125) rfl k) ?_
    refine Goes.via (B := T23.setTop (mkF m 128 #[.val (.long p1), .second, .val (.int p3), .val (.int (1 : Int32)), .val (.int (1 : Int32)), .val (.int (1 : Int32)), .val (.ref b3)] [(.int (1 : Int32)), (.int (5 : Int32)), (.ref b3)])) (fun t k => XS.iload X23.here hx rfl (hb hby d18_126) rfl k) ?_
    refine Goes.via (B := T23.setTop (mkF m 129 #[.val (.long p1), .second, .val (.int p3), .val (.int (1 : Int32)), .val (.int (1 : Int32)), .val (.int (1 : Int32)), .val (.ref b3)] [(.int ((1 : Int32).toInt8.toInt32)), (.int (5 : Int32)), (.ref b3)])) (fun t k => XS.i2b X23.here hx rfl (hb hby d18_128) rfl k) ?_
    rw [show ((1 : Int32).toInt8.toInt32) = (1 : Int32) from by decide +kernel]
    have Vc24 := Vb3_23
    obtain ⟨cl24, Ar24, q24, S24, M24, H24, G24⟩ := Vc24
    have hin24 : ¬ ((5 : Int32) < 0 ∨ cl24.slots.size ≤ ((5 : Int32)).toNatClampNeg) := inb_of S24 ⟨by decide, by decide⟩
    obtain ⟨T24, h24, X24, e24, W24, st24⟩ := stB X23 hx hZ e23 Ar24 (j := (5 : Int32)) hin24 (g := (mkF m 129 #[.val (.long p1), .second, .val (.int p3), .val (.int (1 : Int32)), .val (.int (1 : Int32)), .val (.int (1 : Int32)), .val (.ref b3)] [(.int (1 : Int32)), (.int (5 : Int32)), (.ref b3)])) rfl rfl (hb hby d18_129)
    have Vb3_24 := Arv.set Ar24 q24 S24 M24 H24 G24 (fits_nar_byte _) W24 5 rfl (Nat.le_of_ble_eq_true rfl)
    replace Vb3_24 : Arv Z h24 b3 k3 .byte (7 : Int32) [(.int (nar .byte (kd.toInt8.toInt32))), (.int (nar .byte ((1 : Int32).toInt8.toInt32))), (.int (nar .byte u2)), (.int (nar .byte (1 : Int32))), (.int (nar .byte u4)), (.int (nar .byte (1 : Int32))), (.int (nar .byte u6))] (.int (0 : Int32)) := Vb3_24
    have N24 := Fr.snoc X24 N23 g_b3
    have Z24 : n0 ≤ h24.size := Nat.le_trans Z23 (Nat.le_of_eq W24.size.symm)
    have K24 := K23.wr W24 (Or.inr sz_b3)
    refine Goes.via (B := T24.setTop (mkF m 130 #[.val (.long p1), .second, .val (.int p3), .val (.int (1 : Int32)), .val (.int (1 : Int32)), .val (.int (1 : Int32)), .val (.ref b3)] [])) st24 ?_
    refine Goes.via (B := T24.setTop (mkF m 132 #[.val (.long p1), .second, .val (.int p3), .val (.int (1 : Int32)), .val (.int (1 : Int32)), .val (.int (1 : Int32)), .val (.ref b3)] [(.ref b3)])) (fun t k => XS.aload X24.here hx rfl (hb hby d18_130) rfl rfl k) ?_
    have h7 : own_ok7 [(.int (nar .byte (kd.toInt8.toInt32))), (.int (nar .byte ((1 : Int32).toInt8.toInt32))), (.int (nar .byte u2)), (.int (nar .byte (1 : Int32))), (.int (nar .byte u4)), (.int (nar .byte (1 : Int32))), (.int (nar .byte u6))] (own_kd p3) (own_ta p3) (own_tr p3) (own_tc p3) := by
      have hk : (own_kd p3) = kd := hkd
      rw [own_tc, hva, hvb, hk]
      exact ⟨congrArg Value.int (own_kb (hk ▸ own_kd01 p3)), rfl, rfl, rfl⟩
    exact own_out X24 (v := some (.ref b3)) (fun h => by rw [Bd.returns] at h; cases h) Bd.notSynchronized (fun fs hr => retOut X24 hx Bd.returns rfl (Or.inr (Or.inr (Or.inr (Or.inr ⟨rfl, rfl, rfl⟩)))) (hb hby d18_132) hr) ⟨by rw [g3], N24, (by rw [e24]; exact K24), k3, [(.int (nar .byte (kd.toInt8.toInt32))), (.int (nar .byte ((1 : Int32).toInt8.toInt32))), (.int (nar .byte u2)), (.int (nar .byte (1 : Int32))), (.int (nar .byte u4)), (.int (nar .byte (1 : Int32))), (.int (nar .byte u6))], (by rw [e24, ← g3]; exact Vb3_24), h7⟩ (by decide) (by decide)
  · rw [show (((3 : Int32) - (1 : Int32)) - (2 : Int32)) = (0 : Int32) from by decide +kernel]
    refine Goes.via (B := T12.setTop (mkF m 111 #[.val (.long p1), .second, .val (.int p3), .val (.int (1 : Int32)), .val (.int (2 : Int32)), .val (.int (0 : Int32)), .val (.ref b3)] [(.ref b3)])) (fun t k => XS.aload X12.here hx rfl (hb hby d18_109) rfl rfl k) ?_
    refine Goes.via (B := T12.setTop (mkF m 112 #[.val (.long p1), .second, .val (.int p3), .val (.int (1 : Int32)), .val (.int (2 : Int32)), .val (.int (0 : Int32)), .val (.ref b3)] [(.int (2 : Int32)), (.ref b3)])) (fun t k => XS.iconst X12.here hx rfl (hb hby d18_111) k) ?_
    refine Goes.via (B := T12.setTop (mkF m 113 #[.val (.long p1), .second, .val (.int p3), .val (.int (1 : Int32)), .val (.int (2 : Int32)), .val (.int (0 : Int32)), .val (.ref b3)] [(.int (1 : Int32)), (.int (2 : Int32)), (.ref b3)])) (fun t k => XS.iloadN X12.here hx rfl (hb hby d18_112) rfl k) ?_
    refine Goes.via (B := T12.setTop (mkF m 114 #[.val (.long p1), .second, .val (.int p3), .val (.int (1 : Int32)), .val (.int (2 : Int32)), .val (.int (0 : Int32)), .val (.ref b3)] [(.int (3 : Int32)), (.ref b3)])) (fun t k => XS.iadd X12.here hx rfl (hb hby d18_113) rfl k) ?_
    refine Goes.via (B := T12.setTop (mkF m 116 #[.val (.long p1), .second, .val (.int p3), .val (.int (1 : Int32)), .val (.int (2 : Int32)), .val (.int (0 : Int32)), .val (.ref b3)] [(.int (2 : Int32)), (.int (3 : Int32)), (.ref b3)])) (fun t k => XS.iload X12.here hx rfl (hb hby d18_114) rfl k) ?_
    refine Goes.via (B := T12.setTop (mkF m 117 #[.val (.long p1), .second, .val (.int p3), .val (.int (1 : Int32)), .val (.int (2 : Int32)), .val (.int (0 : Int32)), .val (.ref b3)] [(.int ((2 : Int32).toInt8.toInt32)), (.int (3 : Int32)), (.ref b3)])) (fun t k => XS.i2b X12.here hx rfl (hb hby d18_116) rfl k) ?_
    rw [show ((2 : Int32).toInt8.toInt32) = (2 : Int32) from by decide +kernel]
    have Vc25 := Vb3_12
    obtain ⟨cl25, Ar25, q25, S25, M25, H25, G25⟩ := Vc25
    have hin25 : ¬ ((3 : Int32) < 0 ∨ cl25.slots.size ≤ ((3 : Int32)).toNatClampNeg) := inb_of S25 ⟨by decide, by decide⟩
    obtain ⟨T25, h25, X25, e25, W25, st25⟩ := stB X12 hx hZ e12 Ar25 (j := (3 : Int32)) hin25 (g := (mkF m 117 #[.val (.long p1), .second, .val (.int p3), .val (.int (1 : Int32)), .val (.int (2 : Int32)), .val (.int (0 : Int32)), .val (.ref b3)] [(.int (2 : Int32)), (.int (3 : Int32)), (.ref b3)])) rfl rfl (hb hby d18_117)
    have Vb3_25 := Arv.set Ar25 q25 S25 M25 H25 G25 (fits_nar_byte _) W25 3 rfl (Nat.le_of_ble_eq_true rfl)
    replace Vb3_25 : Arv Z h25 b3 k3 .byte (7 : Int32) [(.int (nar .byte (kd.toInt8.toInt32))), (.int (nar .byte ((1 : Int32).toInt8.toInt32))), (.int (nar .byte u2)), (.int (nar .byte (2 : Int32))), (.int (nar .byte u4)), (.int (nar .byte u5)), (.int (nar .byte u6))] (.int (0 : Int32)) := Vb3_25
    have N25 := Fr.snoc X25 N12 g_b3
    have Z25 : n0 ≤ h25.size := Nat.le_trans Z12 (Nat.le_of_eq W25.size.symm)
    have K25 := K12.wr W25 (Or.inr sz_b3)
    refine Goes.via (B := T25.setTop (mkF m 118 #[.val (.long p1), .second, .val (.int p3), .val (.int (1 : Int32)), .val (.int (2 : Int32)), .val (.int (0 : Int32)), .val (.ref b3)] [])) st25 ?_
    refine Goes.via (B := T25.setTop (mkF m 120 #[.val (.long p1), .second, .val (.int p3), .val (.int (1 : Int32)), .val (.int (2 : Int32)), .val (.int (0 : Int32)), .val (.ref b3)] [(.ref b3)])) (fun t k => XS.aload X25.here hx rfl (hb hby d18_118) rfl rfl k) ?_
    refine Goes.via (B := T25.setTop (mkF m 121 #[.val (.long p1), .second, .val (.int p3), .val (.int (1 : Int32)), .val (.int (2 : Int32)), .val (.int (0 : Int32)), .val (.ref b3)] [(.int (3 : Int32)), (.ref b3)])) (fun t k => XS.iconst X25.here hx rfl (hb hby d18_120) k) ?_
    refine Goes.via (B := T25.setTop (mkF m 122 #[.val (.long p1), .second, .val (.int p3), .val (.int (1 : Int32)), .val (.int (2 : Int32)), .val (.int (0 : Int32)), .val (.ref b3)] [(.int (1 : Int32)), (.int (3 : Int32)), (.ref b3)])) (fun t k => XS.iloadN X25.here hx rfl (hb hby d18_121) rfl k) ?_
    refine Goes.via (B := T25.setTop (mkF m 123 #[.val (.long p1), .second, .val (.int p3), .val (.int (1 : Int32)), .val (.int (2 : Int32)), .val (.int (0 : Int32)), .val (.ref b3)] [(.int (4 : Int32)), (.ref b3)])) (fun t k => XS.iadd X25.here hx rfl (hb hby d18_122) rfl k) ?_
    refine Goes.via (B := T25.setTop (mkF m 125 #[.val (.long p1), .second, .val (.int p3), .val (.int (1 : Int32)), .val (.int (2 : Int32)), .val (.int (0 : Int32)), .val (.ref b3)] [(.int (2 : Int32)), (.int (4 : Int32)), (.ref b3)])) (fun t k => XS.iload X25.here hx rfl (hb hby d18_123) rfl k) ?_
    refine Goes.via (B := T25.setTop (mkF m 126 #[.val (.long p1), .second, .val (.int p3), .val (.int (1 : Int32)), .val (.int (2 : Int32)), .val (.int (0 : Int32)), .val (.ref b3)] [(.int (6 : Int32)), (.ref b3)])) (fun t k => XS.iadd X25.here hx rfl (hb hby d18_125) rfl k) ?_
    refine Goes.via (B := T25.setTop (mkF m 128 #[.val (.long p1), .second, .val (.int p3), .val (.int (1 : Int32)), .val (.int (2 : Int32)), .val (.int (0 : Int32)), .val (.ref b3)] [(.int (0 : Int32)), (.int (6 : Int32)), (.ref b3)])) (fun t k => XS.iload X25.here hx rfl (hb hby d18_126) rfl k) ?_
    refine Goes.via (B := T25.setTop (mkF m 129 #[.val (.long p1), .second, .val (.int p3), .val (.int (1 : Int32)), .val (.int (2 : Int32)), .val (.int (0 : Int32)), .val (.ref b3)] [(.int ((0 : Int32).toInt8.toInt32)), (.int (6 : Int32)), (.ref b3)])) (fun t k => XS.i2b X25.here hx rfl (hb hby d18_128) rfl k) ?_
    rw [show ((0 : Int32).toInt8.toInt32) = (0 : Int32) from by decide +kernel]
    have Vc26 := Vb3_25
    obtain ⟨cl26, Ar26, q26, S26, M26, H26, G26⟩ := Vc26
    have hin26 : ¬ ((6 : Int32) < 0 ∨ cl26.slots.size ≤ ((6 : Int32)).toNatClampNeg) := inb_of S26 ⟨by decide, by decide⟩
    obtain ⟨T26, h26, X26, e26, W26, st26⟩ := stB X25 hx hZ e25 Ar26 (j := (6 : Int32)) hin26 (g := (mkF m 129 #[.val (.long p1), .second, .val (.int p3), .val (.int (1 : Int32)), .val (.int (2 : Int32)), .val (.int (0 : Int32)), .val (.ref b3)] [(.int (0 : Int32)), (.int (6 : Int32)), (.ref b3)])) rfl rfl (hb hby d18_129)
    have Vb3_26 := Arv.set Ar26 q26 S26 M26 H26 G26 (fits_nar_byte _) W26 6 rfl (Nat.le_of_ble_eq_true rfl)
    replace Vb3_26 : Arv Z h26 b3 k3 .byte (7 : Int32) [(.int (nar .byte (kd.toInt8.toInt32))), (.int (nar .byte ((1 : Int32).toInt8.toInt32))), (.int (nar .byte u2)), (.int (nar .byte (2 : Int32))), (.int (nar .byte u4)), (.int (nar .byte u5)), (.int (nar .byte (0 : Int32)))] (.int (0 : Int32)) := Vb3_26
    have N26 := Fr.snoc X26 N25 g_b3
    have Z26 : n0 ≤ h26.size := Nat.le_trans Z25 (Nat.le_of_eq W26.size.symm)
    have K26 := K25.wr W26 (Or.inr sz_b3)
    refine Goes.via (B := T26.setTop (mkF m 130 #[.val (.long p1), .second, .val (.int p3), .val (.int (1 : Int32)), .val (.int (2 : Int32)), .val (.int (0 : Int32)), .val (.ref b3)] [])) st26 ?_
    refine Goes.via (B := T26.setTop (mkF m 132 #[.val (.long p1), .second, .val (.int p3), .val (.int (1 : Int32)), .val (.int (2 : Int32)), .val (.int (0 : Int32)), .val (.ref b3)] [(.ref b3)])) (fun t k => XS.aload X26.here hx rfl (hb hby d18_130) rfl rfl k) ?_
    have h7 : own_ok7 [(.int (nar .byte (kd.toInt8.toInt32))), (.int (nar .byte ((1 : Int32).toInt8.toInt32))), (.int (nar .byte u2)), (.int (nar .byte (2 : Int32))), (.int (nar .byte u4)), (.int (nar .byte u5)), (.int (nar .byte (0 : Int32)))] (own_kd p3) (own_ta p3) (own_tr p3) (own_tc p3) := by
      have hk : (own_kd p3) = kd := hkd
      rw [own_tc, hva, hvb, hk]
      exact ⟨congrArg Value.int (own_kb (hk ▸ own_kd01 p3)), rfl, rfl, rfl⟩
    exact own_out X26 (v := some (.ref b3)) (fun h => by rw [Bd.returns] at h; cases h) Bd.notSynchronized (fun fs hr => retOut X26 hx Bd.returns rfl (Or.inr (Or.inr (Or.inr (Or.inr ⟨rfl, rfl, rfl⟩)))) (hb hby d18_132) hr) ⟨by rw [g3], N26, (by rw [e26]; exact K26), k3, [(.int (nar .byte (kd.toInt8.toInt32))), (.int (nar .byte ((1 : Int32).toInt8.toInt32))), (.int (nar .byte u2)), (.int (nar .byte (2 : Int32))), (.int (nar .byte u4)), (.int (nar .byte u5)), (.int (nar .byte (0 : Int32)))], (by rw [e26, ← g3]; exact Vb3_26), h7⟩ (by decide) (by decide)
  · rw [show (((3 : Int32) - (2 : Int32)) - (0 : Int32)) = (1 : Int32) from by decide +kernel]
    refine Goes.via (B := T12.setTop (mkF m 111 #[.val (.long p1), .second, .val (.int p3), .val (.int (2 : Int32)), .val (.int (0 : Int32)), .val (.int (1 : Int32)), .val (.ref b3)] [(.ref b3)])) (fun t k => XS.aload X12.here hx rfl (hb hby d18_109) rfl rfl k) ?_
    refine Goes.via (B := T12.setTop (mkF m 112 #[.val (.long p1), .second, .val (.int p3), .val (.int (2 : Int32)), .val (.int (0 : Int32)), .val (.int (1 : Int32)), .val (.ref b3)] [(.int (2 : Int32)), (.ref b3)])) (fun t k => XS.iconst X12.here hx rfl (hb hby d18_111) k) ?_
    refine Goes.via (B := T12.setTop (mkF m 113 #[.val (.long p1), .second, .val (.int p3), .val (.int (2 : Int32)), .val (.int (0 : Int32)), .val (.int (1 : Int32)), .val (.ref b3)] [(.int (2 : Int32)), (.int (2 : Int32)), (.ref b3)])) (fun t k => XS.iloadN X12.here hx rfl (hb hby d18_112) rfl k) ?_
    refine Goes.via (B := T12.setTop (mkF m 114 #[.val (.long p1), .second, .val (.int p3), .val (.int (2 : Int32)), .val (.int (0 : Int32)), .val (.int (1 : Int32)), .val (.ref b3)] [(.int (4 : Int32)), (.ref b3)])) (fun t k => XS.iadd X12.here hx rfl (hb hby d18_113) rfl k) ?_
    refine Goes.via (B := T12.setTop (mkF m 116 #[.val (.long p1), .second, .val (.int p3), .val (.int (2 : Int32)), .val (.int (0 : Int32)), .val (.int (1 : Int32)), .val (.ref b3)] [(.int (0 : Int32)), (.int (4 : Int32)), (.ref b3)])) (fun t k => XS.iload X12.here hx rfl (hb hby d18_114) rfl k) ?_
    refine Goes.via (B := T12.setTop (mkF m 117 #[.val (.long p1), .second, .val (.int p3), .val (.int (2 : Int32)), .val (.int (0 : Int32)), .val (.int (1 : Int32)), .val (.ref b3)] [(.int ((0 : Int32).toInt8.toInt32)), (.int (4 : Int32)), (.ref b3)])) (fun t k => XS.i2b X12.here hx rfl (hb hby d18_116) rfl k) ?_
    rw [show ((0 : Int32).toInt8.toInt32) = (0 : Int32) from by decide +kernel]
    have Vc27 := Vb3_12
    obtain ⟨cl27, Ar27, q27, S27, M27, H27, G27⟩ := Vc27
    have hin27 : ¬ ((4 : Int32) < 0 ∨ cl27.slots.size ≤ ((4 : Int32)).toNatClampNeg) := inb_of S27 ⟨by decide, by decide⟩
    obtain ⟨T27, h27, X27, e27, W27, st27⟩ := stB X12 hx hZ e12 Ar27 (j := (4 : Int32)) hin27 (g := (mkF m 117 #[.val (.long p1), .second, .val (.int p3), .val (.int (2 : Int32)), .val (.int (0 : Int32)), .val (.int (1 : Int32)), .val (.ref b3)] [(.int (0 : Int32)), (.int (4 : Int32)), (.ref b3)])) rfl rfl (hb hby d18_117)
    have Vb3_27 := Arv.set Ar27 q27 S27 M27 H27 G27 (fits_nar_byte _) W27 4 rfl (Nat.le_of_ble_eq_true rfl)
    replace Vb3_27 : Arv Z h27 b3 k3 .byte (7 : Int32) [(.int (nar .byte (kd.toInt8.toInt32))), (.int (nar .byte ((2 : Int32).toInt8.toInt32))), (.int (nar .byte u2)), (.int (nar .byte u3)), (.int (nar .byte (0 : Int32))), (.int (nar .byte u5)), (.int (nar .byte u6))] (.int (0 : Int32)) := Vb3_27
    have N27 := Fr.snoc X27 N12 g_b3
    have Z27 : n0 ≤ h27.size := Nat.le_trans Z12 (Nat.le_of_eq W27.size.symm)
    have K27 := K12.wr W27 (Or.inr sz_b3)
    refine Goes.via (B := T27.setTop (mkF m 118 #[.val (.long p1), .second, .val (.int p3), .val (.int (2 : Int32)), .val (.int (0 : Int32)), .val (.int (1 : Int32)), .val (.ref b3)] [])) st27 ?_
    refine Goes.via (B := T27.setTop (mkF m 120 #[.val (.long p1), .second, .val (.int p3), .val (.int (2 : Int32)), .val (.int (0 : Int32)), .val (.int (1 : Int32)), .val (.ref b3)] [(.ref b3)])) (fun t k => XS.aload X27.here hx rfl (hb hby d18_118) rfl rfl k) ?_
    refine Goes.via (B := T27.setTop (mkF m 121 #[.val (.long p1), .second, .val (.int p3), .val (.int (2 : Int32)), .val (.int (0 : Int32)), .val (.int (1 : Int32)), .val (.ref b3)] [(.int (3 : Int32)), (.ref b3)])) (fun t k => XS.iconst X27.here hx rfl (hb hby d18_120) k) ?_
    refine Goes.via (B := T27.setTop (mkF m 122 #[.val (.long p1), .second, .val (.int p3), .val (.int (2 : Int32)), .val (.int (0 : Int32)), .val (.int (1 : Int32)), .val (.ref b3)] [(.int (2 : Int32)), (.int (3 : Int32)), (.ref b3)])) (fun t k => XS.iloadN X27.here hx rfl (hb hby d18_121) rfl k) ?_
    refine Goes.via (B := T27.setTop (mkF m 123 #[.val (.long p1), .second, .val (.int p3), .val (.int (2 : Int32)), .val (.int (0 : Int32)), .val (.int (1 : Int32)), .val (.ref b3)] [(.int (5 : Int32)), (.ref b3)])) (fun t k => XS.iadd X27.here hx rfl (hb hby d18_122) rfl k) ?_
    refine Goes.via (B := T27.setTop (mkF m 125 #[.val (.long p1), .second, .val (.int p3), .val (.int (2 : Int32)), .val (.int (0 : Int32)), .val (.int (1 : Int32)), .val (.ref b3)] [(.int (0 : Int32)), (.int (5 : Int32)), (.ref b3)])) (fun t k => XS.iload X27.here hx rfl (hb hby d18_123) rfl k) ?_
    refine Goes.via (B := T27.setTop (mkF m 126 #[.val (.long p1), .second, .val (.int p3), .val (.int (2 : Int32)), .val (.int (0 : Int32)), .val (.int (1 : Int32)), .val (.ref b3)] [(.int (5 : Int32)), (.ref b3)])) (fun t k => XS.iadd X27.here hx rfl (hb hby d18_125) rfl k) ?_
    refine Goes.via (B := T27.setTop (mkF m 128 #[.val (.long p1), .second, .val (.int p3), .val (.int (2 : Int32)), .val (.int (0 : Int32)), .val (.int (1 : Int32)), .val (.ref b3)] [(.int (1 : Int32)), (.int (5 : Int32)), (.ref b3)])) (fun t k => XS.iload X27.here hx rfl (hb hby d18_126) rfl k) ?_
    refine Goes.via (B := T27.setTop (mkF m 129 #[.val (.long p1), .second, .val (.int p3), .val (.int (2 : Int32)), .val (.int (0 : Int32)), .val (.int (1 : Int32)), .val (.ref b3)] [(.int ((1 : Int32).toInt8.toInt32)), (.int (5 : Int32)), (.ref b3)])) (fun t k => XS.i2b X27.here hx rfl (hb hby d18_128) rfl k) ?_
    rw [show ((1 : Int32).toInt8.toInt32) = (1 : Int32) from by decide +kernel]
    have Vc28 := Vb3_27
    obtain ⟨cl28, Ar28, q28, S28, M28, H28, G28⟩ := Vc28
    have hin28 : ¬ ((5 : Int32) < 0 ∨ cl28.slots.size ≤ ((5 : Int32)).toNatClampNeg) := inb_of S28 ⟨by decide, by decide⟩
    obtain ⟨T28, h28, X28, e28, W28, st28⟩ := stB X27 hx hZ e27 Ar28 (j := (5 : Int32)) hin28 (g := (mkF m 129 #[.val (.long p1), .second, .val (.int p3), .val (.int (2 : Int32)), .val (.int (0 : Int32)), .val (.int (1 : Int32)), .val (.ref b3)] [(.int (1 : Int32)), (.int (5 : Int32)), (.ref b3)])) rfl rfl (hb hby d18_129)
    have Vb3_28 := Arv.set Ar28 q28 S28 M28 H28 G28 (fits_nar_byte _) W28 5 rfl (Nat.le_of_ble_eq_true rfl)
    replace Vb3_28 : Arv Z h28 b3 k3 .byte (7 : Int32) [(.int (nar .byte (kd.toInt8.toInt32))), (.int (nar .byte ((2 : Int32).toInt8.toInt32))), (.int (nar .byte u2)), (.int (nar .byte u3)), (.int (nar .byte (0 : Int32))), (.int (nar .byte (1 : Int32))), (.int (nar .byte u6))] (.int (0 : Int32)) := Vb3_28
    have N28 := Fr.snoc X28 N27 g_b3
    have Z28 : n0 ≤ h28.size := Nat.le_trans Z27 (Nat.le_of_eq W28.size.symm)
    have K28 := K27.wr W28 (Or.inr sz_b3)
    refine Goes.via (B := T28.setTop (mkF m 130 #[.val (.long p1), .second, .val (.int p3), .val (.int (2 : Int32)), .val (.int (0 : Int32)), .val (.int (1 : Int32)), .val (.ref b3)] [])) st28 ?_
    refine Goes.via (B := T28.setTop (mkF m 132 #[.val (.long p1), .second, .val (.int p3), .val (.int (2 : Int32)), .val (.int (0 : Int32)), .val (.int (1 : Int32)), .val (.ref b3)] [(.ref b3)])) (fun t k => XS.aload X28.here hx rfl (hb hby d18_130) rfl rfl k) ?_
    have h7 : own_ok7 [(.int (nar .byte (kd.toInt8.toInt32))), (.int (nar .byte ((2 : Int32).toInt8.toInt32))), (.int (nar .byte u2)), (.int (nar .byte u3)), (.int (nar .byte (0 : Int32))), (.int (nar .byte (1 : Int32))), (.int (nar .byte u6))] (own_kd p3) (own_ta p3) (own_tr p3) (own_tc p3) := by
      have hk : (own_kd p3) = kd := hkd
      rw [own_tc, hva, hvb, hk]
      exact ⟨congrArg Value.int (own_kb (hk ▸ own_kd01 p3)), rfl, rfl, rfl⟩
    exact own_out X28 (v := some (.ref b3)) (fun h => by rw [Bd.returns] at h; cases h) Bd.notSynchronized (fun fs hr => retOut X28 hx Bd.returns rfl (Or.inr (Or.inr (Or.inr (Or.inr ⟨rfl, rfl, rfl⟩)))) (hb hby d18_132) hr) ⟨by rw [g3], N28, (by rw [e28]; exact K28), k3, [(.int (nar .byte (kd.toInt8.toInt32))), (.int (nar .byte ((2 : Int32).toInt8.toInt32))), (.int (nar .byte u2)), (.int (nar .byte u3)), (.int (nar .byte (0 : Int32))), (.int (nar .byte (1 : Int32))), (.int (nar .byte u6))], (by rw [e28, ← g3]; exact Vb3_28), h7⟩ (by decide) (by decide)
  · rw [show (((3 : Int32) - (2 : Int32)) - (1 : Int32)) = (0 : Int32) from by decide +kernel]
    refine Goes.via (B := T12.setTop (mkF m 111 #[.val (.long p1), .second, .val (.int p3), .val (.int (2 : Int32)), .val (.int (1 : Int32)), .val (.int (0 : Int32)), .val (.ref b3)] [(.ref b3)])) (fun t k => XS.aload X12.here hx rfl (hb hby d18_109) rfl rfl k) ?_
    refine Goes.via (B := T12.setTop (mkF m 112 #[.val (.long p1), .second, .val (.int p3), .val (.int (2 : Int32)), .val (.int (1 : Int32)), .val (.int (0 : Int32)), .val (.ref b3)] [(.int (2 : Int32)), (.ref b3)])) (fun t k => XS.iconst X12.here hx rfl (hb hby d18_111) k) ?_
    refine Goes.via (B := T12.setTop (mkF m 113 #[.val (.long p1), .second, .val (.int p3), .val (.int (2 : Int32)), .val (.int (1 : Int32)), .val (.int (0 : Int32)), .val (.ref b3)] [(.int (2 : Int32)), (.int (2 : Int32)), (.ref b3)])) (fun t k => XS.iloadN X12.here hx rfl (hb hby d18_112) rfl k) ?_
    refine Goes.via (B := T12.setTop (mkF m 114 #[.val (.long p1), .second, .val (.int p3), .val (.int (2 : Int32)), .val (.int (1 : Int32)), .val (.int (0 : Int32)), .val (.ref b3)] [(.int (4 : Int32)), (.ref b3)])) (fun t k => XS.iadd X12.here hx rfl (hb hby d18_113) rfl k) ?_
    refine Goes.via (B := T12.setTop (mkF m 116 #[.val (.long p1), .second, .val (.int p3), .val (.int (2 : Int32)), .val (.int (1 : Int32)), .val (.int (0 : Int32)), .val (.ref b3)] [(.int (1 : Int32)), (.int (4 : Int32)), (.ref b3)])) (fun t k => XS.iload X12.here hx rfl (hb hby d18_114) rfl k) ?_
    refine Goes.via (B := T12.setTop (mkF m 117 #[.val (.long p1), .second, .val (.int p3), .val (.int (2 : Int32)), .val (.int (1 : Int32)), .val (.int (0 : Int32)), .val (.ref b3)] [(.int ((1 : Int32).toInt8.toInt32)), (.int (4 : Int32)), (.ref b3)])) (fun t k => XS.i2b X12.here hx rfl (hb hby d18_116) rfl k) ?_
    rw [show ((1 : Int32).toInt8.toInt32) = (1 : Int32) from by decide +kernel]
    have Vc29 := Vb3_12
    obtain ⟨cl29, Ar29, q29, S29, M29, H29, G29⟩ := Vc29
    have hin29 : ¬ ((4 : Int32) < 0 ∨ cl29.slots.size ≤ ((4 : Int32)).toNatClampNeg) := inb_of S29 ⟨by decide, by decide⟩
    obtain ⟨T29, h29, X29, e29, W29, st29⟩ := stB X12 hx hZ e12 Ar29 (j := (4 : Int32)) hin29 (g := (mkF m 117 #[.val (.long p1), .second, .val (.int p3), .val (.int (2 : Int32)), .val (.int (1 : Int32)), .val (.int (0 : Int32)), .val (.ref b3)] [(.int (1 : Int32)), (.int (4 : Int32)), (.ref b3)])) rfl rfl (hb hby d18_117)
    have Vb3_29 := Arv.set Ar29 q29 S29 M29 H29 G29 (fits_nar_byte _) W29 4 rfl (Nat.le_of_ble_eq_true rfl)
    replace Vb3_29 : Arv Z h29 b3 k3 .byte (7 : Int32) [(.int (nar .byte (kd.toInt8.toInt32))), (.int (nar .byte ((2 : Int32).toInt8.toInt32))), (.int (nar .byte u2)), (.int (nar .byte u3)), (.int (nar .byte (1 : Int32))), (.int (nar .byte u5)), (.int (nar .byte u6))] (.int (0 : Int32)) := Vb3_29
    have N29 := Fr.snoc X29 N12 g_b3
    have Z29 : n0 ≤ h29.size := Nat.le_trans Z12 (Nat.le_of_eq W29.size.symm)
    have K29 := K12.wr W29 (Or.inr sz_b3)
    refine Goes.via (B := T29.setTop (mkF m 118 #[.val (.long p1), .second, .val (.int p3), .val (.int (2 : Int32)), .val (.int (1 : Int32)), .val (.int (0 : Int32)), .val (.ref b3)] [])) st29 ?_
    refine Goes.via (B := T29.setTop (mkF m 120 #[.val (.long p1), .second, .val (.int p3), .val (.int (2 : Int32)), .val (.int (1 : Int32)), .val (.int (0 : Int32)), .val (.ref b3)] [(.ref b3)])) (fun t k => XS.aload X29.here hx rfl (hb hby d18_118) rfl rfl k) ?_
    refine Goes.via (B := T29.setTop (mkF m 121 #[.val (.long p1), .second, .val (.int p3), .val (.int (2 : Int32)), .val (.int (1 : Int32)), .val (.int (0 : Int32)), .val (.ref b3)] [(.int (3 : Int32)), (.ref b3)])) (fun t k => XS.iconst X29.here hx rfl (hb hby d18_120) k) ?_
    refine Goes.via (B := T29.setTop (mkF m 122 #[.val (.long p1), .second, .val (.int p3), .val (.int (2 : Int32)), .val (.int (1 : Int32)), .val (.int (0 : Int32)), .val (.ref b3)] [(.int (2 : Int32)), (.int (3 : Int32)), (.ref b3)])) (fun t k => XS.iloadN X29.here hx rfl (hb hby d18_121) rfl k) ?_
    refine Goes.via (B := T29.setTop (mkF m 123 #[.val (.long p1), .second, .val (.int p3), .val (.int (2 : Int32)), .val (.int (1 : Int32)), .val (.int (0 : Int32)), .val (.ref b3)] [(.int (5 : Int32)), (.ref b3)])) (fun t k => XS.iadd X29.here hx rfl (hb hby d18_122) rfl k) ?_
    refine Goes.via (B := T29.setTop (mkF m 125 #[.val (.long p1), .second, .val (.int p3), .val (.int (2 : Int32)), .val (.int (1 : Int32)), .val (.int (0 : Int32)), .val (.ref b3)] [(.int (1 : Int32)), (.int (5 : Int32)), (.ref b3)])) (fun t k => XS.iload X29.here hx rfl (hb hby d18_123) rfl k) ?_
    refine Goes.via (B := T29.setTop (mkF m 126 #[.val (.long p1), .second, .val (.int p3), .val (.int (2 : Int32)), .val (.int (1 : Int32)), .val (.int (0 : Int32)), .val (.ref b3)] [(.int (6 : Int32)), (.ref b3)])) (fun t k => XS.iadd X29.here hx rfl (hb hby d18_125) rfl k) ?_
    refine Goes.via (B := T29.setTop (mkF m 128 #[.val (.long p1), .second, .val (.int p3), .val (.int (2 : Int32)), .val (.int (1 : Int32)), .val (.int (0 : Int32)), .val (.ref b3)] [(.int (0 : Int32)), (.int (6 : Int32)), (.ref b3)])) (fun t k => XS.iload X29.here hx rfl (hb hby d18_126) rfl k) ?_
    refine Goes.via (B := T29.setTop (mkF m 129 #[.val (.long p1), .second, .val (.int p3), .val (.int (2 : Int32)), .val (.int (1 : Int32)), .val (.int (0 : Int32)), .val (.ref b3)] [(.int ((0 : Int32).toInt8.toInt32)), (.int (6 : Int32)), (.ref b3)])) (fun t k => XS.i2b X29.here hx rfl (hb hby d18_128) rfl k) ?_
    rw [show ((0 : Int32).toInt8.toInt32) = (0 : Int32) from by decide +kernel]
    have Vc30 := Vb3_29
    obtain ⟨cl30, Ar30, q30, S30, M30, H30, G30⟩ := Vc30
    have hin30 : ¬ ((6 : Int32) < 0 ∨ cl30.slots.size ≤ ((6 : Int32)).toNatClampNeg) := inb_of S30 ⟨by decide, by decide⟩
    obtain ⟨T30, h30, X30, e30, W30, st30⟩ := stB X29 hx hZ e29 Ar30 (j := (6 : Int32)) hin30 (g := (mkF m 129 #[.val (.long p1), .second, .val (.int p3), .val (.int (2 : Int32)), .val (.int (1 : Int32)), .val (.int (0 : Int32)), .val (.ref b3)] [(.int (0 : Int32)), (.int (6 : Int32)), (.ref b3)])) rfl rfl (hb hby d18_129)
    have Vb3_30 := Arv.set Ar30 q30 S30 M30 H30 G30 (fits_nar_byte _) W30 6 rfl (Nat.le_of_ble_eq_true rfl)
    replace Vb3_30 : Arv Z h30 b3 k3 .byte (7 : Int32) [(.int (nar .byte (kd.toInt8.toInt32))), (.int (nar .byte ((2 : Int32).toInt8.toInt32))), (.int (nar .byte u2)), (.int (nar .byte u3)), (.int (nar .byte (1 : Int32))), (.int (nar .byte u5)), (.int (nar .byte (0 : Int32)))] (.int (0 : Int32)) := Vb3_30
    have N30 := Fr.snoc X30 N29 g_b3
    have Z30 : n0 ≤ h30.size := Nat.le_trans Z29 (Nat.le_of_eq W30.size.symm)
    have K30 := K29.wr W30 (Or.inr sz_b3)
    refine Goes.via (B := T30.setTop (mkF m 130 #[.val (.long p1), .second, .val (.int p3), .val (.int (2 : Int32)), .val (.int (1 : Int32)), .val (.int (0 : Int32)), .val (.ref b3)] [])) st30 ?_
    refine Goes.via (B := T30.setTop (mkF m 132 #[.val (.long p1), .second, .val (.int p3), .val (.int (2 : Int32)), .val (.int (1 : Int32)), .val (.int (0 : Int32)), .val (.ref b3)] [(.ref b3)])) (fun t k => XS.aload X30.here hx rfl (hb hby d18_130) rfl rfl k) ?_
    have h7 : own_ok7 [(.int (nar .byte (kd.toInt8.toInt32))), (.int (nar .byte ((2 : Int32).toInt8.toInt32))), (.int (nar .byte u2)), (.int (nar .byte u3)), (.int (nar .byte (1 : Int32))), (.int (nar .byte u5)), (.int (nar .byte (0 : Int32)))] (own_kd p3) (own_ta p3) (own_tr p3) (own_tc p3) := by
      have hk : (own_kd p3) = kd := hkd
      rw [own_tc, hva, hvb, hk]
      exact ⟨congrArg Value.int (own_kb (hk ▸ own_kd01 p3)), rfl, rfl, rfl⟩
    exact own_out X30 (v := some (.ref b3)) (fun h => by rw [Bd.returns] at h; cases h) Bd.notSynchronized (fun fs hr => retOut X30 hx Bd.returns rfl (Or.inr (Or.inr (Or.inr (Or.inr ⟨rfl, rfl, rfl⟩)))) (hb hby d18_132) hr) ⟨by rw [g3], N30, (by rw [e30]; exact K30), k3, [(.int (nar .byte (kd.toInt8.toInt32))), (.int (nar .byte ((2 : Int32).toInt8.toInt32))), (.int (nar .byte u2)), (.int (nar .byte u3)), (.int (nar .byte (1 : Int32))), (.int (nar .byte u5)), (.int (nar .byte (0 : Int32)))], (by rw [e30, ← g3]; exact Vb3_30), h7⟩ (by decide) (by decide)
  · rw [show (((3 : Int32) - (3 : Int32)) - (0 : Int32)) = (0 : Int32) from by decide +kernel]
    refine Goes.via (B := T12.setTop (mkF m 111 #[.val (.long p1), .second, .val (.int p3), .val (.int (3 : Int32)), .val (.int (0 : Int32)), .val (.int (0 : Int32)), .val (.ref b3)] [(.ref b3)])) (fun t k => XS.aload X12.here hx rfl (hb hby d18_109) rfl rfl k) ?_
    refine Goes.via (B := T12.setTop (mkF m 112 #[.val (.long p1), .second, .val (.int p3), .val (.int (3 : Int32)), .val (.int (0 : Int32)), .val (.int (0 : Int32)), .val (.ref b3)] [(.int (2 : Int32)), (.ref b3)])) (fun t k => XS.iconst X12.here hx rfl (hb hby d18_111) k) ?_
    refine Goes.via (B := T12.setTop (mkF m 113 #[.val (.long p1), .second, .val (.int p3), .val (.int (3 : Int32)), .val (.int (0 : Int32)), .val (.int (0 : Int32)), .val (.ref b3)] [(.int (3 : Int32)), (.int (2 : Int32)), (.ref b3)])) (fun t k => XS.iloadN X12.here hx rfl (hb hby d18_112) rfl k) ?_
    refine Goes.via (B := T12.setTop (mkF m 114 #[.val (.long p1), .second, .val (.int p3), .val (.int (3 : Int32)), .val (.int (0 : Int32)), .val (.int (0 : Int32)), .val (.ref b3)] [(.int (5 : Int32)), (.ref b3)])) (fun t k => XS.iadd X12.here hx rfl (hb hby d18_113) rfl k) ?_
    refine Goes.via (B := T12.setTop (mkF m 116 #[.val (.long p1), .second, .val (.int p3), .val (.int (3 : Int32)), .val (.int (0 : Int32)), .val (.int (0 : Int32)), .val (.ref b3)] [(.int (0 : Int32)), (.int (5 : Int32)), (.ref b3)])) (fun t k => XS.iload X12.here hx rfl (hb hby d18_114) rfl k) ?_
    refine Goes.via (B := T12.setTop (mkF m 117 #[.val (.long p1), .second, .val (.int p3), .val (.int (3 : Int32)), .val (.int (0 : Int32)), .val (.int (0 : Int32)), .val (.ref b3)] [(.int ((0 : Int32).toInt8.toInt32)), (.int (5 : Int32)), (.ref b3)])) (fun t k => XS.i2b X12.here hx rfl (hb hby d18_116) rfl k) ?_
    rw [show ((0 : Int32).toInt8.toInt32) = (0 : Int32) from by decide +kernel]
    have Vc31 := Vb3_12
    obtain ⟨cl31, Ar31, q31, S31, M31, H31, G31⟩ := Vc31
    have hin31 : ¬ ((5 : Int32) < 0 ∨ cl31.slots.size ≤ ((5 : Int32)).toNatClampNeg) := inb_of S31 ⟨by decide, by decide⟩
    obtain ⟨T31, h31, X31, e31, W31, st31⟩ := stB X12 hx hZ e12 Ar31 (j := (5 : Int32)) hin31 (g := (mkF m 117 #[.val (.long p1), .second, .val (.int p3), .val (.int (3 : Int32)), .val (.int (0 : Int32)), .val (.int (0 : Int32)), .val (.ref b3)] [(.int (0 : Int32)), (.int (5 : Int32)), (.ref b3)])) rfl rfl (hb hby d18_117)
    have Vb3_31 := Arv.set Ar31 q31 S31 M31 H31 G31 (fits_nar_byte _) W31 5 rfl (Nat.le_of_ble_eq_true rfl)
    replace Vb3_31 : Arv Z h31 b3 k3 .byte (7 : Int32) [(.int (nar .byte (kd.toInt8.toInt32))), (.int (nar .byte ((3 : Int32).toInt8.toInt32))), (.int (nar .byte u2)), (.int (nar .byte u3)), (.int (nar .byte u4)), (.int (nar .byte (0 : Int32))), (.int (nar .byte u6))] (.int (0 : Int32)) := Vb3_31
    have N31 := Fr.snoc X31 N12 g_b3
    have Z31 : n0 ≤ h31.size := Nat.le_trans Z12 (Nat.le_of_eq W31.size.symm)
    have K31 := K12.wr W31 (Or.inr sz_b3)
    refine Goes.via (B := T31.setTop (mkF m 118 #[.val (.long p1), .second, .val (.int p3), .val (.int (3 : Int32)), .val (.int (0 : Int32)), .val (.int (0 : Int32)), .val (.ref b3)] [])) st31 ?_
    refine Goes.via (B := T31.setTop (mkF m 120 #[.val (.long p1), .second, .val (.int p3), .val (.int (3 : Int32)), .val (.int (0 : Int32)), .val (.int (0 : Int32)), .val (.ref b3)] [(.ref b3)])) (fun t k => XS.aload X31.here hx rfl (hb hby d18_118) rfl rfl k) ?_
    refine Goes.via (B := T31.setTop (mkF m 121 #[.val (.long p1), .second, .val (.int p3), .val (.int (3 : Int32)), .val (.int (0 : Int32)), .val (.int (0 : Int32)), .val (.ref b3)] [(.int (3 : Int32)), (.ref b3)])) (fun t k => XS.iconst X31.here hx rfl (hb hby d18_120) k) ?_
    refine Goes.via (B := T31.setTop (mkF m 122 #[.val (.long p1), .second, .val (.int p3), .val (.int (3 : Int32)), .val (.int (0 : Int32)), .val (.int (0 : Int32)), .val (.ref b3)] [(.int (3 : Int32)), (.int (3 : Int32)), (.ref b3)])) (fun t k => XS.iloadN X31.here hx rfl (hb hby d18_121) rfl k) ?_
    refine Goes.via (B := T31.setTop (mkF m 123 #[.val (.long p1), .second, .val (.int p3), .val (.int (3 : Int32)), .val (.int (0 : Int32)), .val (.int (0 : Int32)), .val (.ref b3)] [(.int (6 : Int32)), (.ref b3)])) (fun t k => XS.iadd X31.here hx rfl (hb hby d18_122) rfl k) ?_
    refine Goes.via (B := T31.setTop (mkF m 125 #[.val (.long p1), .second, .val (.int p3), .val (.int (3 : Int32)), .val (.int (0 : Int32)), .val (.int (0 : Int32)), .val (.ref b3)] [(.int (0 : Int32)), (.int (6 : Int32)), (.ref b3)])) (fun t k => XS.iload X31.here hx rfl (hb hby d18_123) rfl k) ?_
    refine Goes.via (B := T31.setTop (mkF m 126 #[.val (.long p1), .second, .val (.int p3), .val (.int (3 : Int32)), .val (.int (0 : Int32)), .val (.int (0 : Int32)), .val (.ref b3)] [(.int (6 : Int32)), (.ref b3)])) (fun t k => XS.iadd X31.here hx rfl (hb hby d18_125) rfl k) ?_
    refine Goes.via (B := T31.setTop (mkF m 128 #[.val (.long p1), .second, .val (.int p3), .val (.int (3 : Int32)), .val (.int (0 : Int32)), .val (.int (0 : Int32)), .val (.ref b3)] [(.int (0 : Int32)), (.int (6 : Int32)), (.ref b3)])) (fun t k => XS.iload X31.here hx rfl (hb hby d18_126) rfl k) ?_
    refine Goes.via (B := T31.setTop (mkF m 129 #[.val (.long p1), .second, .val (.int p3), .val (.int (3 : Int32)), .val (.int (0 : Int32)), .val (.int (0 : Int32)), .val (.ref b3)] [(.int ((0 : Int32).toInt8.toInt32)), (.int (6 : Int32)), (.ref b3)])) (fun t k => XS.i2b X31.here hx rfl (hb hby d18_128) rfl k) ?_
    rw [show ((0 : Int32).toInt8.toInt32) = (0 : Int32) from by decide +kernel]
    have Vc32 := Vb3_31
    obtain ⟨cl32, Ar32, q32, S32, M32, H32, G32⟩ := Vc32
    have hin32 : ¬ ((6 : Int32) < 0 ∨ cl32.slots.size ≤ ((6 : Int32)).toNatClampNeg) := inb_of S32 ⟨by decide, by decide⟩
    obtain ⟨T32, h32, X32, e32, W32, st32⟩ := stB X31 hx hZ e31 Ar32 (j := (6 : Int32)) hin32 (g := (mkF m 129 #[.val (.long p1), .second, .val (.int p3), .val (.int (3 : Int32)), .val (.int (0 : Int32)), .val (.int (0 : Int32)), .val (.ref b3)] [(.int (0 : Int32)), (.int (6 : Int32)), (.ref b3)])) rfl rfl (hb hby d18_129)
    have Vb3_32 := Arv.set Ar32 q32 S32 M32 H32 G32 (fits_nar_byte _) W32 6 rfl (Nat.le_of_ble_eq_true rfl)
    replace Vb3_32 : Arv Z h32 b3 k3 .byte (7 : Int32) [(.int (nar .byte (kd.toInt8.toInt32))), (.int (nar .byte ((3 : Int32).toInt8.toInt32))), (.int (nar .byte u2)), (.int (nar .byte u3)), (.int (nar .byte u4)), (.int (nar .byte (0 : Int32))), (.int (nar .byte (0 : Int32)))] (.int (0 : Int32)) := Vb3_32
    have N32 := Fr.snoc X32 N31 g_b3
    have Z32 : n0 ≤ h32.size := Nat.le_trans Z31 (Nat.le_of_eq W32.size.symm)
    have K32 := K31.wr W32 (Or.inr sz_b3)
    refine Goes.via (B := T32.setTop (mkF m 130 #[.val (.long p1), .second, .val (.int p3), .val (.int (3 : Int32)), .val (.int (0 : Int32)), .val (.int (0 : Int32)), .val (.ref b3)] [])) st32 ?_
    refine Goes.via (B := T32.setTop (mkF m 132 #[.val (.long p1), .second, .val (.int p3), .val (.int (3 : Int32)), .val (.int (0 : Int32)), .val (.int (0 : Int32)), .val (.ref b3)] [(.ref b3)])) (fun t k => XS.aload X32.here hx rfl (hb hby d18_130) rfl rfl k) ?_
    have h7 : own_ok7 [(.int (nar .byte (kd.toInt8.toInt32))), (.int (nar .byte ((3 : Int32).toInt8.toInt32))), (.int (nar .byte u2)), (.int (nar .byte u3)), (.int (nar .byte u4)), (.int (nar .byte (0 : Int32))), (.int (nar .byte (0 : Int32)))] (own_kd p3) (own_ta p3) (own_tr p3) (own_tc p3) := by
      have hk : (own_kd p3) = kd := hkd
      rw [own_tc, hva, hvb, hk]
      exact ⟨congrArg Value.int (own_kb (hk ▸ own_kd01 p3)), rfl, rfl, rfl⟩
    exact own_out X32 (v := some (.ref b3)) (fun h => by rw [Bd.returns] at h; cases h) Bd.notSynchronized (fun fs hr => retOut X32 hx Bd.returns rfl (Or.inr (Or.inr (Or.inr (Or.inr ⟨rfl, rfl, rfl⟩)))) (hb hby d18_132) hr) ⟨by rw [g3], N32, (by rw [e32]; exact K32), k3, [(.int (nar .byte (kd.toInt8.toInt32))), (.int (nar .byte ((3 : Int32).toInt8.toInt32))), (.int (nar .byte u2)), (.int (nar .byte u3)), (.int (nar .byte u4)), (.int (nar .byte (0 : Int32))), (.int (nar .byte (0 : Int32)))], (by rw [e32, ← g3]; exact Vb3_32), h7⟩ (by decide) (by decide)
theorem pd__JI__B : parseMethodDescriptor "(JI)[B" = some ⟨[.long, .int], some (.array .byte)⟩ := by decide +kernel
theorem pd___V : parseMethodDescriptor "()V" = some ⟨[], none⟩ := by decide +kernel
theorem pd__J_B_V : parseMethodDescriptor "(J[B)V" = some ⟨[.long, (.array .byte)], none⟩ := by decide +kernel
theorem pd____B : parseMethodDescriptor "()[B" = some ⟨[], some (.array .byte)⟩ := by decide +kernel
theorem pd___Z : parseMethodDescriptor "()Z" = some ⟨[], some .boolean⟩ := by decide +kernel
theorem ef_0 (m : MethodId) (x0 : Int64) (x1 : Int64) (x2 : Int64) (x3 : Int32) (x4 : Int32) (x5 : Int32) : entryFrame m #[(.long x0), (.long x1), (.long x2), (.int x3), (.int x4), (.int x5)] maxLocals = mkF m 0 #[.val (.long x0), .second, .val (.long x1), .second, .val (.long x2), .second, .val (.int x3), .val (.int x4), .val (.int x5), .unset, .unset, .unset, .unset, .unset, .unset, .unset] [] := by first | (simp [entryFrame, mkF, argsToLocals, Value.category, maxLocals]; done) | rfl
def own_ed (p5 : Int32) : Int32 := if (((p5.toUInt32 >>> ((4 : Int32) &&& 31).toUInt32).toInt32) &&& (1 : Int32)) = (0 : Int32) then (1 : Int32) else (0 : Int32)
theorem own_dl01 (k : Int32) : own_dl k = 0 ∨ own_dl k = 1 := by
  unfold own_dl
  split
  · exact Or.inr rfl
  · exact Or.inl rfl
theorem own_ti (p : Int32) : (own_nx (1 : Int32) (own_ta p)).toInt = 2 + (own_ta p).toInt ∧ (own_nx (own_nx (1 : Int32) (own_ta p)) (own_tr p)).toInt = 3 + (own_ta p).toInt + (own_tr p).toInt ∧ (own_nx (own_nx (own_nx (1 : Int32) (own_ta p)) (own_tr p)) (own_tc p)).toInt = 7 := by
  obtain ⟨b1, b2, b3, b4⟩ := own_abcOf p
  have i1 : 0 ≤ (1 : Int32).toInt ∧ (1 : Int32).toInt < 7 := by decide
  have i1e : (1 : Int32).toInt = 1 := by decide
  have t1 := own_nxi i1 (show 0 ≤ (own_ta p).toInt ∧ (own_ta p).toInt ≤ 3 by omega)
  have i2 : 0 ≤ (own_nx (1 : Int32) (own_ta p)).toInt ∧ (own_nx (1 : Int32) (own_ta p)).toInt < 7 := by omega
  have t2 := own_nxi i2 (show 0 ≤ (own_tr p).toInt ∧ (own_tr p).toInt ≤ 3 by omega)
  have i3 : 0 ≤ (own_nx (own_nx (1 : Int32) (own_ta p)) (own_tr p)).toInt ∧ (own_nx (own_nx (1 : Int32) (own_ta p)) (own_tr p)).toInt < 7 := by omega
  have t3 := own_nxi i3 (show 0 ≤ (own_tc p).toInt ∧ (own_tc p).toInt ≤ 3 by omega)
  omega
theorem own_seven (p : Int32) : own_nx (own_nx (own_nx (1 : Int32) (own_ta p)) (own_tr p)) (own_tc p) = (7 : Int32) := by
  rw [← Int32.toInt_inj]
  exact (own_ti p).2.2
theorem own_row (p : Int32) : ((own_nx (own_nx (1 : Int32) (own_ta p)) (own_tr p)) - (own_tr p)) = ((3 : Int32) + (own_ta p)) := by
  have t := own_ti p
  have u := own_abcOf p
  unfold own_abc at u
  have a := c_isub (own_nx (own_nx (1 : Int32) (own_ta p)) (own_tr p)) (own_tr p)
  have b := c_iadd 3 (own_ta p)
  have r1 := rng32 ((own_nx (own_nx (1 : Int32) (own_ta p)) (own_tr p)) - (own_tr p))
  have r2 := rng32 ((3 : Int32) + (own_ta p))
  rw [← Int32.toInt_inj]
  simp only [Int32.reduceToInt] at *
  omega
theorem own_col (p : Int32) : ((own_nx (own_nx (own_nx (1 : Int32) (own_ta p)) (own_tr p)) (own_tc p)) - (own_tc p)) = (((4 : Int32) + (own_ta p)) + (own_tr p)) := by
  have t := own_ti p
  have u := own_abcOf p
  unfold own_abc at u
  have a := c_isub (own_nx (own_nx (own_nx (1 : Int32) (own_ta p)) (own_tr p)) (own_tc p)) (own_tc p)
  have b := c_iadd 4 (own_ta p)
  have c := c_iadd ((4 : Int32) + (own_ta p)) (own_tr p)
  have r1 := rng32 ((own_nx (own_nx (own_nx (1 : Int32) (own_ta p)) (own_tr p)) (own_tc p)) - (own_tc p))
  have r2 := rng32 ((4 : Int32) + (own_ta p))
  have r3 := rng32 (((4 : Int32) + (own_ta p)) + (own_tr p))
  rw [← Int32.toInt_inj]
  simp only [Int32.reduceToInt] at *
  omega
def Q0 (Z : State) (p1 : Int64) (p2 : Int64) (p3 : Int64) (p4 : Int32) (p5 : Int32) (p6 : Int32) (h0 : Heap) (n0 : Nat) (v : Option Value) (h : Heap) (L : List Loc) : Prop := v = some (.int (1 : Int32)) ∧ Fr n0 L
set_option maxRecDepth 65536 in
set_option maxHeartbeats 40000000 in
theorem rm0 (l : Launch) (Z : State) (a0 : Array Value) (hw : ∀ d ∈ tables_1, d.before a0 Z = true) (ws : List Jvm.Cond) (p1 : Int64) (p2 : Int64) (p3 : Int64) (p4 : Int32) (p5 : Int32) (p6 : Int32) (h0 : Heap) (n0 : Nat) (Z0 : n0 ≤ h0.size)  :
    MetFree l x (head1 (Jvm.Cond.code x code maxLocals ret :: ws) room_1) (fun a U => a = #[(.long p1), (.long p2), (.long p3), (.int p4), (.int p5), (.int p6)] ∧ Z.Warmed39 U.vm ∧ U.heap = h0) (fun _ _ _ _ _ => True) (fun _ U o U' => ∃ v L, o = .returned v ∧ Q0 Z p1 p2 p3 p4 p5 p6 h0 n0 v U'.heap L ∧ ReturnedEndW U o U' L room_1.cells room_1.slots) := by
  refine MetFree.of_bodySF (plainFor_of_name pn_com_example_highwater_highwater_sweep_QueueLayoutBeginPinLaw) hisR ?_
  intro p e s m args below meth c s₁ Bd hml0 hP hK
  obtain ⟨rfl, hZ, hh⟩ := hP
  have hx := Bd.exec
  have hby := Bd.bytes
  have hml : c.maxLocals = 16 := hml0
  have hown : s.vm.findClass "com/example/highwater/highwater/sweep/QueueLayoutBeginPinLaw" = some m.cls := findClass_of_methodNamed Bd.named
  have hnm := (name_of_methodNamed Bd.named Bd.method).1
  have X0 : Stand p l e room_1 s m #[(.long p1), (.long p2), (.long p3), (.int p4), (.int p5), (.int p6)] below meth c s₁ [] 0 0 := Stand.of_body Bd
  have e0 : s₁.heap = h0 := by rw [← hh, Bd.state]; rfl
  have N0 := Fr.nil n0
  have X0 : Stand p l e room_1 (s.setVm s.vm) m #[(.long p1), (.long p2), (.long p3), (.int p4), (.int p5), (.int p6)] below meth c s₁ [] 0 0 := X0
  have hS0 : s.Since s.vm h0.size := (State.WarmedH.refl s).since _
  have hk0 : h0.size ≤ h0.size := Nat.le_refl _
  have hZ : Z.Warmed39 (s.setVm s.vm).vm := hZ
  have hown : (s.setVm s.vm).vm.findClass "com/example/highwater/highwater/sweep/QueueLayoutBeginPinLaw" = some m.cls := hown
  show Goes p e below (fun s₂ o => ∃ v L, o = .returned v ∧ Q0 Z p1 p2 p3 p4 p5 p6 h0 n0 v s₂.heap L ∧ ReturnedEndW s o s₂ L room_1.cells room_1.slots) (s₁.setTop (entryFrame m #[(.long p1), (.long p2), (.long p3), (.int p4), (.int p5), (.int p6)] maxLocals))
  refine Goes.cast (ef_0 m p1 p2 p3 p4 p5 p6) ?_
  refine Goes.via (B := s₁.setTop (mkF m 1 #[.val (.long p1), .second, .val (.long p2), .second, .val (.long p3), .second, .val (.int p4), .val (.int p5), .val (.int p6), .unset, .unset, .unset, .unset, .unset, .unset, .unset] [(.long p2)])) (fun t k => XS.lloadN X0.here hx rfl (hb hby at_0) rfl k) ?_
  refine Goes.via (B := s₁.setTop (mkF m 3 #[.val (.long p1), .second, .val (.long p2), .second, .val (.long p3), .second, .val (.int p4), .val (.int p5), .val (.int p6), .unset, .unset, .unset, .unset, .unset, .unset, .unset] [(.int p4), (.long p2)])) (fun t k => XS.iload X0.here hx rfl (hb hby at_1) rfl k) ?_
  obtain ⟨_, _, ⟨T1, L1, kk1, nn1⟩, -, X1, ⟨Lc1, hQ1, l1, y1, z1⟩, st1⟩ := Jvm.LawKit.callS X0 hx (y := (⟨"com/example/highwater/highwater/sweep/QueueLayoutBeginPinLaw", "build", "(JI)[B"⟩ : MethodName)) hown (mvT hZ (hw _ (List.mem_of_getElem? (i := 0) rfl))) (mvT hZ (hw _ (List.mem_of_getElem? (i := 1) rfl))) (mvT hZ (hw _ (List.mem_of_getElem? (i := 2) rfl))) (mvT hZ (hw _ (List.mem_of_getElem? (i := 3) rfl))) (by decide) (backOf (W := 0) (rm18 l Z a0 hw [] p2 p4 h0 n0 Z0 ) hZ (hw _ (List.mem_of_getElem? (i := 3) rfl)) (hw _ (List.mem_of_getElem? (i := 2) rfl)) (by decide) (by decide)) (g := (mkF m 3 #[.val (.long p1), .second, .val (.long p2), .second, .val (.long p3), .second, .val (.int p4), .val (.int p5), .val (.int p6), .unset, .unset, .unset, .unset, .unset, .unset, .unset] [(.int p4), (.long p2)])) rfl (by rw [hml]; rfl) (argsL := [(.long p2), (.int p4)]) (rest := []) (lenOf pd__JI__B rfl) rfl (by show 2 * 0 + _ ≤ _; exact Nat.le_of_eq rfl) (hb hby at_3) (fun _ _ => ⟨rfl, e0, (by decide : 0 + 1 ≤ _), (by decide : 0 + 7 ≤ _)⟩)
  dsimp only [Pt.U, Pt.locs, Pt.cells, Pt.slots] at X1 l1 y1 z1 st1 hQ1
  subst l1 y1 z1
  obtain ⟨rfl, Nq1, Kq1, ⟨kq1, vs1, Vq1, hok1⟩⟩ := hQ1
  have N1 := Fr.app N0 Nq1
  obtain ⟨r1, g1⟩ : ∃ z, z = h0.size := ⟨_, rfl⟩
  rw [← g1] at Vq1 st1
  have hk1 := Nat.le_trans hk0 Kq1.1
  have g_r1 : n0 ≤ r1 := Nat.le_trans Z0 (Nat.le_of_eq g1.symm)
  have Z1 : n0 ≤ T1.heap.size := Nat.le_trans Z0 Kq1.1
  have eq1 : T1.heap = T1.heap := rfl
  refine Goes.via (B := T1.setTop (mkF m 6 #[.val (.long p1), .second, .val (.long p2), .second, .val (.long p3), .second, .val (.int p4), .val (.int p5), .val (.int p6), .unset, .unset, .unset, .unset, .unset, .unset, .unset] [(.ref r1)])) st1 ?_
  refine Goes.via (B := T1.setTop (mkF m 8 #[.val (.long p1), .second, .val (.long p2), .second, .val (.long p3), .second, .val (.int p4), .val (.int p5), .val (.int p6), .val (.ref r1), .unset, .unset, .unset, .unset, .unset, .unset] [])) (fun t k => XS.astore X1.here hx rfl (hb hby at_6) rfl rfl (l' := #[.val (.long p1), .second, .val (.long p2), .second, .val (.long p3), .second, .val (.int p4), .val (.int p5), .val (.int p6), .val (.ref r1), .unset, .unset, .unset, .unset, .unset, .unset]) rfl k) ?_
  refine Goes.via (B := T1.setTop (mkF m 10 #[.val (.long p1), .second, .val (.long p2), .second, .val (.long p3), .second, .val (.int p4), .val (.int p5), .val (.int p6), .val (.ref r1), .unset, .unset, .unset, .unset, .unset, .unset] [(.long p3)])) (fun t k => XS.lload X1.here hx rfl (hb hby at_8) rfl k) ?_
  refine Goes.via (B := T1.setTop (mkF m 12 #[.val (.long p1), .second, .val (.long p2), .second, .val (.long p3), .second, .val (.int p4), .val (.int p5), .val (.int p6), .val (.ref r1), .unset, .unset, .unset, .unset, .unset, .unset] [(.int p5), (.long p3)])) (fun t k => XS.iload X1.here hx rfl (hb hby at_10) rfl k) ?_
  obtain ⟨_, _, ⟨T2, L2, kk2, nn2⟩, -, X2, ⟨Lc2, hQ2, l2, y2, z2⟩, st2⟩ := Jvm.LawKit.callS X1 hx (y := (⟨"com/example/highwater/highwater/sweep/QueueLayoutBeginPinLaw", "build", "(JI)[B"⟩ : MethodName)) hown (mvT hZ (hw _ (List.mem_of_getElem? (i := 0) rfl))) (mvT hZ (hw _ (List.mem_of_getElem? (i := 1) rfl))) (mvT hZ (hw _ (List.mem_of_getElem? (i := 2) rfl))) (mvT hZ (hw _ (List.mem_of_getElem? (i := 3) rfl))) (by decide) (backOf (W := 0) (rm18 l Z a0 hw [] p3 p5 T1.heap n0 Z1 ) hZ (hw _ (List.mem_of_getElem? (i := 3) rfl)) (hw _ (List.mem_of_getElem? (i := 2) rfl)) (by decide) (by decide)) (g := (mkF m 12 #[.val (.long p1), .second, .val (.long p2), .second, .val (.long p3), .second, .val (.int p4), .val (.int p5), .val (.int p6), .val (.ref r1), .unset, .unset, .unset, .unset, .unset, .unset] [(.int p5), (.long p3)])) rfl (by rw [hml]; rfl) (argsL := [(.long p3), (.int p5)]) (rest := []) (lenOf pd__JI__B rfl) rfl (by show 2 * 0 + _ ≤ _; exact Nat.le_of_eq rfl) (hb hby at_12) (fun _ _ => ⟨rfl, eq1, (by decide : 1 + 1 ≤ _), (by decide : 7 + 7 ≤ _)⟩)
  dsimp only [Pt.U, Pt.locs, Pt.cells, Pt.slots] at X2 l2 y2 z2 st2 hQ2
  subst l2 y2 z2
  obtain ⟨rfl, Nq2, Kq2, ⟨kq2, vs2, Vq2, hok2⟩⟩ := hQ2
  have N2 := Fr.app N1 Nq2
  obtain ⟨r2, g2⟩ : ∃ z, z = T1.heap.size := ⟨_, rfl⟩
  rw [← g2] at Vq2 st2
  have ne_r1_r2 : r1 ≠ r2 := Nat.ne_of_lt (Nat.lt_of_lt_of_le Vq1.lt (Nat.le_of_eq g2.symm))
  have hk2 := Nat.le_trans hk1 Kq2.1
  have Vr1_2 := Vq1.keep Kq2 nin0
  have g_r2 : n0 ≤ r2 := Nat.le_trans Z1 (Nat.le_of_eq g2.symm)
  have Z2 : n0 ≤ T2.heap.size := Nat.le_trans Z1 Kq2.1
  have eq2 : T2.heap = T2.heap := rfl
  refine Goes.via (B := T2.setTop (mkF m 15 #[.val (.long p1), .second, .val (.long p2), .second, .val (.long p3), .second, .val (.int p4), .val (.int p5), .val (.int p6), .val (.ref r1), .unset, .unset, .unset, .unset, .unset, .unset] [(.ref r2)])) st2 ?_
  refine Goes.via (B := T2.setTop (mkF m 17 #[.val (.long p1), .second, .val (.long p2), .second, .val (.long p3), .second, .val (.int p4), .val (.int p5), .val (.int p6), .val (.ref r1), .val (.ref r2), .unset, .unset, .unset, .unset, .unset] [])) (fun t k => XS.astore X2.here hx rfl (hb hby at_15) rfl rfl (l' := #[.val (.long p1), .second, .val (.long p2), .second, .val (.long p3), .second, .val (.int p4), .val (.int p5), .val (.int p6), .val (.ref r1), .val (.ref r2), .unset, .unset, .unset, .unset, .unset]) rfl k) ?_
  refine Goes.via (B := T2.setTop (mkF m 19 #[.val (.long p1), .second, .val (.long p2), .second, .val (.long p3), .second, .val (.int p4), .val (.int p5), .val (.int p6), .val (.ref r1), .val (.ref r2), .unset, .unset, .unset, .unset, .unset] [(.int p5)])) (fun t k => XS.iload X2.here hx rfl (hb hby at_17) rfl k) ?_
  obtain ⟨_, _, ⟨T3, L3, kk3, nn3⟩, -, X3, ⟨Lc3, hQ3, l3, y3, z3⟩, st3⟩ := Jvm.LawKit.callS X2 hx (y := (⟨"com/example/highwater/highwater/sweep/QueueLayoutBeginPinLaw", "tableLen", "(I)I"⟩ : MethodName)) hown (mvT hZ (hw _ (List.mem_of_getElem? (i := 4) rfl))) (mvT hZ (hw _ (List.mem_of_getElem? (i := 5) rfl))) (mvT hZ (hw _ (List.mem_of_getElem? (i := 2) rfl))) (mvT hZ (hw _ (List.mem_of_getElem? (i := 6) rfl))) (by decide) (backOf (W := 0) (rm16 l Z a0 hw [] p5 T2.heap n0 Z2 ) hZ (hw _ (List.mem_of_getElem? (i := 6) rfl)) (hw _ (List.mem_of_getElem? (i := 2) rfl)) (by decide) (by decide)) (g := (mkF m 19 #[.val (.long p1), .second, .val (.long p2), .second, .val (.long p3), .second, .val (.int p4), .val (.int p5), .val (.int p6), .val (.ref r1), .val (.ref r2), .unset, .unset, .unset, .unset, .unset] [(.int p5)])) rfl (by rw [hml]; rfl) (argsL := [(.int p5)]) (rest := []) (lenOf pd__I_I rfl) rfl (by show 2 * 0 + _ ≤ _; exact Nat.le_of_eq rfl) (hb hby at_19) (fun _ _ => ⟨rfl, eq2, (by decide : 2 + 0 ≤ _), (by decide : 14 + 0 ≤ _)⟩)
  dsimp only [Pt.U, Pt.locs, Pt.cells, Pt.slots] at X3 l3 y3 z3 st3 hQ3
  subst l3 y3 z3
  obtain ⟨rfl, Nq3, hq3⟩ := hQ3
  have N3 := Fr.app N2 Nq3
  refine Goes.via (B := T3.setTop (mkF m 22 #[.val (.long p1), .second, .val (.long p2), .second, .val (.long p3), .second, .val (.int p4), .val (.int p5), .val (.int p6), .val (.ref r1), .val (.ref r2), .unset, .unset, .unset, .unset, .unset] [(.int (own_ta p5))])) st3 ?_
  refine Goes.via (B := T3.setTop (mkF m 24 #[.val (.long p1), .second, .val (.long p2), .second, .val (.long p3), .second, .val (.int p4), .val (.int p5), .val (.int p6), .val (.ref r1), .val (.ref r2), .val (.int (own_ta p5)), .unset, .unset, .unset, .unset] [])) (fun t k => XS.istore X3.here hx rfl (hb hby at_22) rfl (l' := #[.val (.long p1), .second, .val (.long p2), .second, .val (.long p3), .second, .val (.int p4), .val (.int p5), .val (.int p6), .val (.ref r1), .val (.ref r2), .val (.int (own_ta p5)), .unset, .unset, .unset, .unset]) rfl k) ?_
  refine Goes.via (B := T3.setTop (mkF m 26 #[.val (.long p1), .second, .val (.long p2), .second, .val (.long p3), .second, .val (.int p4), .val (.int p5), .val (.int p6), .val (.ref r1), .val (.ref r2), .val (.int (own_ta p5)), .unset, .unset, .unset, .unset] [(.int p5)])) (fun t k => XS.iload X3.here hx rfl (hb hby at_24) rfl k) ?_
  obtain ⟨_, _, ⟨T4, L4, kk4, nn4⟩, -, X4, ⟨Lc4, hQ4, l4, y4, z4⟩, st4⟩ := Jvm.LawKit.callS X3 hx (y := (⟨"com/example/highwater/highwater/sweep/QueueLayoutBeginPinLaw", "rowLen", "(I)I"⟩ : MethodName)) hown (mvT hZ (hw _ (List.mem_of_getElem? (i := 7) rfl))) (mvT hZ (hw _ (List.mem_of_getElem? (i := 8) rfl))) (mvT hZ (hw _ (List.mem_of_getElem? (i := 2) rfl))) (mvT hZ (hw _ (List.mem_of_getElem? (i := 9) rfl))) (by decide) (backOf (W := 0) (rm17 l Z a0 hw [] p5 T2.heap n0 Z2 ) hZ (hw _ (List.mem_of_getElem? (i := 9) rfl)) (hw _ (List.mem_of_getElem? (i := 2) rfl)) (by decide) (by decide)) (g := (mkF m 26 #[.val (.long p1), .second, .val (.long p2), .second, .val (.long p3), .second, .val (.int p4), .val (.int p5), .val (.int p6), .val (.ref r1), .val (.ref r2), .val (.int (own_ta p5)), .unset, .unset, .unset, .unset] [(.int p5)])) rfl (by rw [hml]; rfl) (argsL := [(.int p5)]) (rest := []) (lenOf pd__I_I rfl) rfl (by show 2 * 0 + _ ≤ _; exact Nat.le_of_eq rfl) (hb hby at_26) (fun _ _ => ⟨rfl, hq3, (by decide : 2 + 0 ≤ _), (by decide : 14 + 0 ≤ _)⟩)
  dsimp only [Pt.U, Pt.locs, Pt.cells, Pt.slots] at X4 l4 y4 z4 st4 hQ4
  subst l4 y4 z4
  obtain ⟨rfl, Nq4, hq4⟩ := hQ4
  have N4 := Fr.app N3 Nq4
  refine Goes.via (B := T4.setTop (mkF m 29 #[.val (.long p1), .second, .val (.long p2), .second, .val (.long p3), .second, .val (.int p4), .val (.int p5), .val (.int p6), .val (.ref r1), .val (.ref r2), .val (.int (own_ta p5)), .unset, .unset, .unset, .unset] [(.int (own_tr p5))])) st4 ?_
  refine Goes.via (B := T4.setTop (mkF m 31 #[.val (.long p1), .second, .val (.long p2), .second, .val (.long p3), .second, .val (.int p4), .val (.int p5), .val (.int p6), .val (.ref r1), .val (.ref r2), .val (.int (own_ta p5)), .val (.int (own_tr p5)), .unset, .unset, .unset] [])) (fun t k => XS.istore X4.here hx rfl (hb hby at_29) rfl (l' := #[.val (.long p1), .second, .val (.long p2), .second, .val (.long p3), .second, .val (.int p4), .val (.int p5), .val (.int p6), .val (.ref r1), .val (.ref r2), .val (.int (own_ta p5)), .val (.int (own_tr p5)), .unset, .unset, .unset]) rfl k) ?_
  refine Goes.via (B := T4.setTop (mkF m 33 #[.val (.long p1), .second, .val (.long p2), .second, .val (.long p3), .second, .val (.int p4), .val (.int p5), .val (.int p6), .val (.ref r1), .val (.ref r2), .val (.int (own_ta p5)), .val (.int (own_tr p5)), .unset, .unset, .unset] [(.int p5)])) (fun t k => XS.iload X4.here hx rfl (hb hby at_31) rfl k) ?_
  refine Goes.via (B := T4.setTop (mkF m 34 #[.val (.long p1), .second, .val (.long p2), .second, .val (.long p3), .second, .val (.int p4), .val (.int p5), .val (.int p6), .val (.ref r1), .val (.ref r2), .val (.int (own_ta p5)), .val (.int (own_tr p5)), .unset, .unset, .unset] [(.int (4 : Int32)), (.int p5)])) (fun t k => XS.iconst X4.here hx rfl (hb hby at_33) k) ?_
  refine Goes.via (B := T4.setTop (mkF m 35 #[.val (.long p1), .second, .val (.long p2), .second, .val (.long p3), .second, .val (.int p4), .val (.int p5), .val (.int p6), .val (.ref r1), .val (.ref r2), .val (.int (own_ta p5)), .val (.int (own_tr p5)), .unset, .unset, .unset] [(.int ((p5.toUInt32 >>> ((4 : Int32) &&& 31).toUInt32).toInt32))])) (fun t k => XS.iushr X4.here hx rfl (hb hby at_34) rfl k) ?_
  refine Goes.via (B := T4.setTop (mkF m 36 #[.val (.long p1), .second, .val (.long p2), .second, .val (.long p3), .second, .val (.int p4), .val (.int p5), .val (.int p6), .val (.ref r1), .val (.ref r2), .val (.int (own_ta p5)), .val (.int (own_tr p5)), .unset, .unset, .unset] [(.int (1 : Int32)), (.int ((p5.toUInt32 >>> ((4 : Int32) &&& 31).toUInt32).toInt32))])) (fun t k => XS.iconst X4.here hx rfl (hb hby at_35) k) ?_
  refine Goes.via (B := T4.setTop (mkF m 37 #[.val (.long p1), .second, .val (.long p2), .second, .val (.long p3), .second, .val (.int p4), .val (.int p5), .val (.int p6), .val (.ref r1), .val (.ref r2), .val (.int (own_ta p5)), .val (.int (own_tr p5)), .unset, .unset, .unset] [(.int (((p5.toUInt32 >>> ((4 : Int32) &&& 31).toUInt32).toInt32) &&& (1 : Int32)))])) (fun t k => XS.iand X4.here hx rfl (hb hby at_36) rfl k) ?_
  refine own_join (B := T4.setTop (mkF m 45 #[.val (.long p1), .second, .val (.long p2), .second, .val (.long p3), .second, .val (.int p4), .val (.int p5), .val (.int p6), .val (.ref r1), .val (.ref r2), .val (.int (own_ta p5)), .val (.int (own_tr p5)), .unset, .unset, .unset] [(.int (own_ed p5))])) (fun kj => ?_) ?_
  · by_cases c37_5 : (((p5.toUInt32 >>> ((4 : Int32) &&& 31).toUInt32).toInt32) &&& (1 : Int32)) = (0 : Int32)
    · refine Goes.via (B := T4.setTop (mkF m 40 #[.val (.long p1), .second, .val (.long p2), .second, .val (.long p3), .second, .val (.int p4), .val (.int p5), .val (.int p6), .val (.ref r1), .val (.ref r2), .val (.int (own_ta p5)), .val (.int (own_tr p5)), .unset, .unset, .unset] [])) (fun t k => XS.ifNo X4.here hx rfl (hb hby at_37) rfl ((if0 _ _).trans (teq c37_5).2) k) ?_
      refine Goes.via (B := T4.setTop (mkF m 41 #[.val (.long p1), .second, .val (.long p2), .second, .val (.long p3), .second, .val (.int p4), .val (.int p5), .val (.int p6), .val (.ref r1), .val (.ref r2), .val (.int (own_ta p5)), .val (.int (own_tr p5)), .unset, .unset, .unset] [(.int (1 : Int32))])) (fun t k => XS.iconst X4.here hx rfl (hb hby at_40) k) ?_
      refine Goes.via (B := T4.setTop (mkF m 45 #[.val (.long p1), .second, .val (.long p2), .second, .val (.long p3), .second, .val (.int p4), .val (.int p5), .val (.int p6), .val (.ref r1), .val (.ref r2), .val (.int (own_ta p5)), .val (.int (own_tr p5)), .unset, .unset, .unset] [(.int (1 : Int32))])) (fun t k => XS.goto X4.here hx rfl (pc0 := 41) (pc' := 45) rfl (hb hby at_41) (by decide) (by decide) k) ?_
      have hj : (own_ed p5) = (1 : Int32) := by rw [own_ed, if_pos c37_5]
      rw [hj] at kj
      exact kj
    · refine Goes.via (B := T4.setTop (mkF m 44 #[.val (.long p1), .second, .val (.long p2), .second, .val (.long p3), .second, .val (.int p4), .val (.int p5), .val (.int p6), .val (.ref r1), .val (.ref r2), .val (.int (own_ta p5)), .val (.int (own_tr p5)), .unset, .unset, .unset] [])) (fun t k => XS.ifYes X4.here hx rfl (pc0 := 37) (pc' := 44) rfl (hb hby at_37) rfl ((if0 _ _).trans (feq c37_5).2) (by decide) (by decide) k) ?_
      refine Goes.via (B := T4.setTop (mkF m 45 #[.val (.long p1), .second, .val (.long p2), .second, .val (.long p3), .second, .val (.int p4), .val (.int p5), .val (.int p6), .val (.ref r1), .val (.ref r2), .val (.int (own_ta p5)), .val (.int (own_tr p5)), .unset, .unset, .unset] [(.int (0 : Int32))])) (fun t k => XS.iconst X4.here hx rfl (hb hby at_44) k) ?_
      have hj : (own_ed p5) = (0 : Int32) := by rw [own_ed, if_neg c37_5]
      rw [hj] at kj
      exact kj
  refine Goes.via (B := T4.setTop (mkF m 47 #[.val (.long p1), .second, .val (.long p2), .second, .val (.long p3), .second, .val (.int p4), .val (.int p5), .val (.int p6), .val (.ref r1), .val (.ref r2), .val (.int (own_ta p5)), .val (.int (own_tr p5)), .val (.int (own_ed p5)), .unset, .unset] [])) (fun t k => XS.istore X4.here hx rfl (hb hby at_45) rfl (l' := #[.val (.long p1), .second, .val (.long p2), .second, .val (.long p3), .second, .val (.int p4), .val (.int p5), .val (.int p6), .val (.ref r1), .val (.ref r2), .val (.int (own_ta p5)), .val (.int (own_tr p5)), .val (.int (own_ed p5)), .unset, .unset]) rfl k) ?_
  obtain ⟨T6, h6, X6, e6, E6, A6, D6, -, st6⟩ := newO X4 hx hZ hown (hw _ (List.mem_of_getElem? (i := 11) rfl)) (hw _ (List.mem_of_getElem? (i := 12) rfl)) (hw _ (List.mem_of_getElem? (i := 13) rfl)) hq4 (g := (mkF m 47 #[.val (.long p1), .second, .val (.long p2), .second, .val (.long p3), .second, .val (.int p4), .val (.int p5), .val (.int p6), .val (.ref r1), .val (.ref r2), .val (.int (own_ta p5)), .val (.int (own_tr p5)), .val (.int (own_ed p5)), .unset, .unset] [])) rfl (hb hby at_47) (by decide) (by decide)
  obtain ⟨b6, g6⟩ : ∃ z, z = T2.heap.size := ⟨_, rfl⟩
  rw [← g6] at A6 D6 st6
  have ne_r1_b6 : r1 ≠ b6 := Nat.ne_of_lt (Nat.lt_of_lt_of_le Vr1_2.lt (Nat.le_of_eq g6.symm))
  have ne_r2_b6 : r2 ≠ b6 := Nat.ne_of_lt (Nat.lt_of_lt_of_le Vq2.lt (Nat.le_of_eq g6.symm))
  have hk6 := Nat.le_trans hk2 E6.1
  have Vr1_6 := Vr1_2.ext E6
  have Vr2_6 := Vq2.ext E6
  have Fb6_run_6 : Fld Z h6 b6 "com/example/highwater/highwater/sweep/QueueLayout$RunReader" "run" "[B" .null := D6 (Or.inl (hw _ (List.mem_of_getElem? (i := 26) rfl))) (ty := (.array .byte)) (by decide)
  have Fb6_start_6 : Fld Z h6 b6 "com/example/highwater/highwater/sweep/QueueLayout$RunReader" "start" "J" (.long (0 : Int64)) := D6 (Or.inl (hw _ (List.mem_of_getElem? (i := 28) rfl))) (ty := .long) (by decide)
  have Fb6_next_6 : Fld Z h6 b6 "com/example/highwater/highwater/sweep/QueueLayout$RunReader" "next" "I" (.int (0 : Int32)) := D6 (Or.inl (hw _ (List.mem_of_getElem? (i := 30) rfl))) (ty := .int) (by decide)
  have Fb6_tableAt_6 : Fld Z h6 b6 "com/example/highwater/highwater/sweep/QueueLayout$RunReader" "tableAt" "I" (.int (0 : Int32)) := D6 (Or.inl (hw _ (List.mem_of_getElem? (i := 32) rfl))) (ty := .int) (by decide)
  have Fb6_namesRow_6 : Fld Z h6 b6 "com/example/highwater/highwater/sweep/QueueLayout$RunReader" "namesRow" "Z" (.int (0 : Int32)) := D6 (Or.inl (hw _ (List.mem_of_getElem? (i := 39) rfl))) (ty := .boolean) (by decide)
  have Fb6_tableLength_6 : Fld Z h6 b6 "com/example/highwater/highwater/sweep/QueueLayout$RunReader" "tableLength" "I" (.int (0 : Int32)) := D6 (Or.inl (hw _ (List.mem_of_getElem? (i := 72) rfl))) (ty := .int) (by decide)
  have Fb6_rowLength_6 : Fld Z h6 b6 "com/example/highwater/highwater/sweep/QueueLayout$RunReader" "rowLength" "I" (.int (0 : Int32)) := D6 (Or.inl (hw _ (List.mem_of_getElem? (i := 74) rfl))) (ty := .int) (by decide)
  have Fb6_rowAt_6 : Fld Z h6 b6 "com/example/highwater/highwater/sweep/QueueLayout$RunReader" "rowAt" "I" (.int (0 : Int32)) := D6 (Or.inl (hw _ (List.mem_of_getElem? (i := 76) rfl))) (ty := .int) (by decide)
  have Fb6_columnLength_6 : Fld Z h6 b6 "com/example/highwater/highwater/sweep/QueueLayout$RunReader" "columnLength" "I" (.int (0 : Int32)) := D6 (Or.inl (hw _ (List.mem_of_getElem? (i := 78) rfl))) (ty := .int) (by decide)
  have Fb6_columnAt_6 : Fld Z h6 b6 "com/example/highwater/highwater/sweep/QueueLayout$RunReader" "columnAt" "I" (.int (0 : Int32)) := D6 (Or.inl (hw _ (List.mem_of_getElem? (i := 80) rfl))) (ty := .int) (by decide)
  have Fb6_deletion_6 : Fld Z h6 b6 "com/example/highwater/highwater/sweep/QueueLayout$RunReader" "deletion" "Z" (.int (0 : Int32)) := D6 (Or.inl (hw _ (List.mem_of_getElem? (i := 82) rfl))) (ty := .boolean) (by decide)
  have g_b6 : n0 ≤ b6 := Nat.le_trans Z2 (Nat.le_of_eq g6.symm)
  have Z6 : n0 ≤ h6.size := Nat.le_trans Z2 E6.1
  refine Goes.via (B := T6.setTop (mkF m 50 #[.val (.long p1), .second, .val (.long p2), .second, .val (.long p3), .second, .val (.int p4), .val (.int p5), .val (.int p6), .val (.ref r1), .val (.ref r2), .val (.int (own_ta p5)), .val (.int (own_tr p5)), .val (.int (own_ed p5)), .unset, .unset] [(.ref b6)])) st6 ?_
  refine Goes.via (B := T6.setTop (mkF m 51 #[.val (.long p1), .second, .val (.long p2), .second, .val (.long p3), .second, .val (.int p4), .val (.int p5), .val (.int p6), .val (.ref r1), .val (.ref r2), .val (.int (own_ta p5)), .val (.int (own_tr p5)), .val (.int (own_ed p5)), .unset, .unset] [(.ref b6), (.ref b6)])) (fun t k => XS.dup X6.here hx rfl (hb hby at_50) rfl rfl k) ?_
  obtain ⟨_, _, ⟨T7, L7, kk7, nn7⟩, -, X7, ⟨Lc7, hQ7, l7, y7, z7⟩, st7⟩ := X6.specialBack hx (y := (⟨"com/example/highwater/highwater/sweep/QueueLayout$RunReader", "<init>", "()V"⟩ : MethodName)) rfl hown (mvT hZ (hw _ (List.mem_of_getElem? (i := 14) rfl))) (mvT hZ (hw _ (List.mem_of_getElem? (i := 15) rfl))) (mvT hZ (hw _ (List.mem_of_getElem? (i := 16) rfl))) (by decide) (backOf (W := 1) (rm9 l Z a0 hw [] b6 h6 n0 Z6 ) hZ (hw _ (List.mem_of_getElem? (i := 16) rfl)) (hw _ (List.mem_of_getElem? (i := 13) rfl)) (by decide) (by decide)) (g := (mkF m 51 #[.val (.long p1), .second, .val (.long p2), .second, .val (.long p3), .second, .val (.int p4), .val (.int p5), .val (.int p6), .val (.ref r1), .val (.ref r2), .val (.int (own_ta p5)), .val (.int (own_tr p5)), .val (.int (own_ed p5)), .unset, .unset] [(.ref b6), (.ref b6)])) rfl (by rw [hml]; rfl) (Steps.refl _) (a := b6) (argsL := []) (rest := [(.ref b6)]) (lenOf pd___V rfl) rfl (by show 2 * 0 + _ ≤ _; exact Nat.le_of_eq rfl) (hb hby at_51) (fun _ _ => ⟨rfl, e6, (by decide : 3 + 0 ≤ _), (by decide : 25 + 0 ≤ _)⟩)
  dsimp only [Pt.U, Pt.locs, Pt.cells, Pt.slots] at X7 l7 y7 z7 st7 hQ7
  subst l7 y7 z7
  obtain ⟨rfl, Nq7, hq7⟩ := hQ7
  have N7 := Fr.app N4 Nq7
  refine Goes.via (B := T7.setTop (mkF m 54 #[.val (.long p1), .second, .val (.long p2), .second, .val (.long p3), .second, .val (.int p4), .val (.int p5), .val (.int p6), .val (.ref r1), .val (.ref r2), .val (.int (own_ta p5)), .val (.int (own_tr p5)), .val (.int (own_ed p5)), .unset, .unset] [(.ref b6)])) (fun t k => st7.trans k) ?_
  refine Goes.via (B := T7.setTop (mkF m 56 #[.val (.long p1), .second, .val (.long p2), .second, .val (.long p3), .second, .val (.int p4), .val (.int p5), .val (.int p6), .val (.ref r1), .val (.ref r2), .val (.int (own_ta p5)), .val (.int (own_tr p5)), .val (.int (own_ed p5)), .val (.ref b6), .unset] [])) (fun t k => XS.astore X7.here hx rfl (hb hby at_54) rfl rfl (l' := #[.val (.long p1), .second, .val (.long p2), .second, .val (.long p3), .second, .val (.int p4), .val (.int p5), .val (.int p6), .val (.ref r1), .val (.ref r2), .val (.int (own_ta p5)), .val (.int (own_tr p5)), .val (.int (own_ed p5)), .val (.ref b6), .unset]) rfl k) ?_
  refine Goes.via (B := T7.setTop (mkF m 58 #[.val (.long p1), .second, .val (.long p2), .second, .val (.long p3), .second, .val (.int p4), .val (.int p5), .val (.int p6), .val (.ref r1), .val (.ref r2), .val (.int (own_ta p5)), .val (.int (own_tr p5)), .val (.int (own_ed p5)), .val (.ref b6), .unset] [(.int p6)])) (fun t k => XS.iload X7.here hx rfl (hb hby at_56) rfl k) ?_
  refine Goes.via (B := T7.setTop (mkF m 59 #[.val (.long p1), .second, .val (.long p2), .second, .val (.long p3), .second, .val (.int p4), .val (.int p5), .val (.int p6), .val (.ref r1), .val (.ref r2), .val (.int (own_ta p5)), .val (.int (own_tr p5)), .val (.int (own_ed p5)), .val (.ref b6), .unset] [(.int (1 : Int32)), (.int p6)])) (fun t k => XS.iconst X7.here hx rfl (hb hby at_58) k) ?_
  refine Goes.via (B := T7.setTop (mkF m 60 #[.val (.long p1), .second, .val (.long p2), .second, .val (.long p3), .second, .val (.int p4), .val (.int p5), .val (.int p6), .val (.ref r1), .val (.ref r2), .val (.int (own_ta p5)), .val (.int (own_tr p5)), .val (.int (own_ed p5)), .val (.ref b6), .unset] [(.int (p6 &&& (1 : Int32)))])) (fun t k => XS.iand X7.here hx rfl (hb hby at_59) rfl k) ?_
  by_cases c60_8 : (p6 &&& (1 : Int32)) = (0 : Int32)
  · refine Goes.via (B := T7.setTop (mkF m 77 #[.val (.long p1), .second, .val (.long p2), .second, .val (.long p3), .second, .val (.int p4), .val (.int p5), .val (.int p6), .val (.ref r1), .val (.ref r2), .val (.int (own_ta p5)), .val (.int (own_tr p5)), .val (.int (own_ed p5)), .val (.ref b6), .unset] [])) (fun t k => XS.ifYes X7.here hx rfl (pc0 := 60) (pc' := 77) rfl (hb hby at_60) rfl ((if0 _ _).trans (teq c60_8).1) (by decide) (by decide) k) ?_
    refine Goes.via (B := T7.setTop (mkF m 79 #[.val (.long p1), .second, .val (.long p2), .second, .val (.long p3), .second, .val (.int p4), .val (.int p5), .val (.int p6), .val (.ref r1), .val (.ref r2), .val (.int (own_ta p5)), .val (.int (own_tr p5)), .val (.int (own_ed p5)), .val (.ref b6), .unset] [(.ref b6)])) (fun t k => XS.aload X7.here hx rfl (hb hby at_77) rfl rfl k) ?_
    refine Goes.via (B := T7.setTop (mkF m 80 #[.val (.long p1), .second, .val (.long p2), .second, .val (.long p3), .second, .val (.int p4), .val (.int p5), .val (.int p6), .val (.ref r1), .val (.ref r2), .val (.int (own_ta p5)), .val (.int (own_tr p5)), .val (.int (own_ed p5)), .val (.ref b6), .unset] [(.long p1), (.ref b6)])) (fun t k => XS.lloadN X7.here hx rfl (hb hby at_79) rfl k) ?_
    refine Goes.via (B := T7.setTop (mkF m 82 #[.val (.long p1), .second, .val (.long p2), .second, .val (.long p3), .second, .val (.int p4), .val (.int p5), .val (.int p6), .val (.ref r1), .val (.ref r2), .val (.int (own_ta p5)), .val (.int (own_tr p5)), .val (.int (own_ed p5)), .val (.ref b6), .unset] [(.ref r2), (.long p1), (.ref b6)])) (fun t k => XS.aload X7.here hx rfl (hb hby at_80) rfl rfl k) ?_
    obtain ⟨cq9, kq9, qa9, qb9, qc9⟩ := isOf hZ hq7 A6
    obtain ⟨_, _, ⟨T9, L9, kk9, nn9⟩, -, X9, ⟨Lc9, hQ9, l9, y9, z9⟩, st9⟩ := X7.virtualBack hx (y := (⟨"com/example/highwater/highwater/sweep/QueueLayout$RunReader", "begin", "(J[B)V"⟩ : MethodName)) (z := (⟨"com/example/highwater/highwater/sweep/QueueLayout$RunReader", "begin", "(J[B)V"⟩ : MethodName)) hown (mvT hZ (hw _ (List.mem_of_getElem? (i := 20) rfl))) (mvT hZ (hw _ (List.mem_of_getElem? (i := 21) rfl))) (notFace_of_selects (args := #[]) (mvT hZ (hw _ (List.mem_of_getElem? (i := 23) rfl)))) (mvT hZ (hw _ (List.mem_of_getElem? (i := 23) rfl))) (mvT hZ (hw _ (List.mem_of_getElem? (i := 22) rfl))) (by decide) (backOf (W := 0) (rm10 l Z a0 hw [] b6 p1 r2 .null (0 : Int64) (0 : Int32) (0 : Int32) (0 : Int32) (0 : Int32) (0 : Int32) (0 : Int32) (0 : Int32) (0 : Int32) (0 : Int32) h6 n0 Z6 ⟨A6, Fb6_run_6, Fb6_start_6, Fb6_next_6, Fb6_tableAt_6, Fb6_tableLength_6, Fb6_rowAt_6, Fb6_rowLength_6, Fb6_columnAt_6, Fb6_columnLength_6, Fb6_deletion_6, Fb6_namesRow_6⟩ g_b6) hZ (hw _ (List.mem_of_getElem? (i := 24) rfl)) (hw _ (List.mem_of_getElem? (i := 13) rfl)) (by decide) (by decide)) qa9 qc9 (g := (mkF m 82 #[.val (.long p1), .second, .val (.long p2), .second, .val (.long p3), .second, .val (.int p4), .val (.int p5), .val (.int p6), .val (.ref r1), .val (.ref r2), .val (.int (own_ta p5)), .val (.int (own_tr p5)), .val (.int (own_ed p5)), .val (.ref b6), .unset] [(.ref r2), (.long p1), (.ref b6)])) rfl (by rw [hml]; rfl) (Steps.refl _) (argsL := [(.long p1), (.ref r2)]) (rest := []) (lenOf pd__J_B_V rfl) rfl (by show 2 * 0 + _ ≤ _; exact Nat.le_of_eq rfl) (hb hby at_82) (fun _ _ => ⟨rfl, hq7, (by decide : 3 + 0 ≤ _), (by decide : 25 + 0 ≤ _)⟩)
    dsimp only [Pt.U, Pt.locs, Pt.cells, Pt.slots] at X9 l9 y9 z9 st9 hQ9
    subst l9 y9 z9
    obtain ⟨rfl, Nq9, Kq9, Rq9⟩ := hQ9
    have N9 := Fr.app N7 Nq9
    have hk9 := Nat.le_trans hk6 Kq9.1
    have Vr1_9 := Vr1_6.keep Kq9 (ninS ne_r1_b6 nin0)
    have Vr2_9 := Vr2_6.keep Kq9 (ninS ne_r2_b6 nin0)
    have Eb6_9 := A6.keep Kq9
    obtain ⟨Ab6_9, Fb6_run_9, Fb6_start_9, Fb6_next_9, Fb6_tableAt_9, Fb6_tableLength_9, Fb6_rowAt_9, Fb6_rowLength_9, Fb6_columnAt_9, Fb6_columnLength_9, Fb6_deletion_9, Fb6_namesRow_9⟩ := Rq9
    have Z9 : n0 ≤ T9.heap.size := Nat.le_trans Z6 Kq9.1
    have eq9 : T9.heap = T9.heap := rfl
    refine Goes.via (B := T9.setTop (mkF m 85 #[.val (.long p1), .second, .val (.long p2), .second, .val (.long p3), .second, .val (.int p4), .val (.int p5), .val (.int p6), .val (.ref r1), .val (.ref r2), .val (.int (own_ta p5)), .val (.int (own_tr p5)), .val (.int (own_ed p5)), .val (.ref b6), .unset] [])) (fun t k => st9.trans k) ?_
    refine Goes.via (B := T9.setTop (mkF m 87 #[.val (.long p1), .second, .val (.long p2), .second, .val (.long p3), .second, .val (.int p4), .val (.int p5), .val (.int p6), .val (.ref r1), .val (.ref r2), .val (.int (own_ta p5)), .val (.int (own_tr p5)), .val (.int (own_ed p5)), .val (.ref b6), .unset] [(.ref b6)])) (fun t k => XS.aload X9.here hx rfl (hb hby at_85) rfl rfl k) ?_
    obtain ⟨cq10, kq10, qa10, qb10, qc10⟩ := isOf hZ eq9 Ab6_9
    obtain ⟨_, _, ⟨T10, L10, kk10, nn10⟩, -, X10, ⟨Lc10, hQ10, l10, y10, z10⟩, st10⟩ := X9.virtualBack hx (y := (⟨"com/example/highwater/highwater/sweep/QueueLayout$RunReader", "run", "()[B"⟩ : MethodName)) (z := (⟨"com/example/highwater/highwater/sweep/QueueLayout$RunReader", "run", "()[B"⟩ : MethodName)) hown (mvT hZ (hw _ (List.mem_of_getElem? (i := 83) rfl))) (mvT hZ (hw _ (List.mem_of_getElem? (i := 84) rfl))) (notFace_of_selects (args := #[]) (mvT hZ (hw _ (List.mem_of_getElem? (i := 86) rfl)))) (mvT hZ (hw _ (List.mem_of_getElem? (i := 86) rfl))) (mvT hZ (hw _ (List.mem_of_getElem? (i := 85) rfl))) (by decide) (backOf (W := 0) (rm11 l Z a0 hw [] b6 r2 T9.heap n0 Z9 Fb6_run_9) hZ (hw _ (List.mem_of_getElem? (i := 87) rfl)) (hw _ (List.mem_of_getElem? (i := 13) rfl)) (by decide) (by decide)) qa10 qc10 (g := (mkF m 87 #[.val (.long p1), .second, .val (.long p2), .second, .val (.long p3), .second, .val (.int p4), .val (.int p5), .val (.int p6), .val (.ref r1), .val (.ref r2), .val (.int (own_ta p5)), .val (.int (own_tr p5)), .val (.int (own_ed p5)), .val (.ref b6), .unset] [(.ref b6)])) rfl (by rw [hml]; rfl) (Steps.refl _) (argsL := []) (rest := []) (lenOf pd____B rfl) rfl (by show 2 * 0 + _ ≤ _; exact Nat.le_of_eq rfl) (hb hby at_87) (fun _ _ => ⟨rfl, eq9, (by decide : 3 + 0 ≤ _), (by decide : 25 + 0 ≤ _)⟩)
    dsimp only [Pt.U, Pt.locs, Pt.cells, Pt.slots] at X10 l10 y10 z10 st10 hQ10
    subst l10 y10 z10
    obtain ⟨rfl, Nq10, hq10⟩ := hQ10
    have N10 := Fr.app N9 Nq10
    refine Goes.via (B := T10.setTop (mkF m 90 #[.val (.long p1), .second, .val (.long p2), .second, .val (.long p3), .second, .val (.int p4), .val (.int p5), .val (.int p6), .val (.ref r1), .val (.ref r2), .val (.int (own_ta p5)), .val (.int (own_tr p5)), .val (.int (own_ed p5)), .val (.ref b6), .unset] [(.ref r2)])) (fun t k => st10.trans k) ?_
    refine Goes.via (B := T10.setTop (mkF m 92 #[.val (.long p1), .second, .val (.long p2), .second, .val (.long p3), .second, .val (.int p4), .val (.int p5), .val (.int p6), .val (.ref r1), .val (.ref r2), .val (.int (own_ta p5)), .val (.int (own_tr p5)), .val (.int (own_ed p5)), .val (.ref b6), .unset] [(.ref r2), (.ref r2)])) (fun t k => XS.aload X10.here hx rfl (hb hby at_90) rfl rfl k) ?_
    refine Goes.via (B := T10.setTop (mkF m 95 #[.val (.long p1), .second, .val (.long p2), .second, .val (.long p3), .second, .val (.int p4), .val (.int p5), .val (.int p6), .val (.ref r1), .val (.ref r2), .val (.int (own_ta p5)), .val (.int (own_tr p5)), .val (.int (own_ed p5)), .val (.ref b6), .unset] [])) (fun t k => Jvm.RoadKit.acmp X10 hx rfl (x := (.ref r2)) (y := (.ref r2)) rfl rfl (pc0 := 92) (pc' := 95) rfl (hb hby at_92) rfl (decide_eq_true rfl) (by decide) (by decide) k) ?_
    refine Goes.via (B := T10.setTop (mkF m 96 #[.val (.long p1), .second, .val (.long p2), .second, .val (.long p3), .second, .val (.int p4), .val (.int p5), .val (.int p6), .val (.ref r1), .val (.ref r2), .val (.int (own_ta p5)), .val (.int (own_tr p5)), .val (.int (own_ed p5)), .val (.ref b6), .unset] [(.int (1 : Int32))])) (fun t k => XS.iconst X10.here hx rfl (hb hby at_95) k) ?_
    refine Goes.via (B := T10.setTop (mkF m 100 #[.val (.long p1), .second, .val (.long p2), .second, .val (.long p3), .second, .val (.int p4), .val (.int p5), .val (.int p6), .val (.ref r1), .val (.ref r2), .val (.int (own_ta p5)), .val (.int (own_tr p5)), .val (.int (own_ed p5)), .val (.ref b6), .unset] [(.int (1 : Int32))])) (fun t k => XS.goto X10.here hx rfl (pc0 := 96) (pc' := 100) rfl (hb hby at_96) (by decide) (by decide) k) ?_
    refine Goes.via (B := T10.setTop (mkF m 102 #[.val (.long p1), .second, .val (.long p2), .second, .val (.long p3), .second, .val (.int p4), .val (.int p5), .val (.int p6), .val (.ref r1), .val (.ref r2), .val (.int (own_ta p5)), .val (.int (own_tr p5)), .val (.int (own_ed p5)), .val (.ref b6), .val (.int (1 : Int32))] [])) (fun t k => XS.istore X10.here hx rfl (hb hby at_100) rfl (l' := #[.val (.long p1), .second, .val (.long p2), .second, .val (.long p3), .second, .val (.int p4), .val (.int p5), .val (.int p6), .val (.ref r1), .val (.ref r2), .val (.int (own_ta p5)), .val (.int (own_tr p5)), .val (.int (own_ed p5)), .val (.ref b6), .val (.int (1 : Int32))]) rfl k) ?_
    refine Goes.via (B := T10.setTop (mkF m 104 #[.val (.long p1), .second, .val (.long p2), .second, .val (.long p3), .second, .val (.int p4), .val (.int p5), .val (.int p6), .val (.ref r1), .val (.ref r2), .val (.int (own_ta p5)), .val (.int (own_tr p5)), .val (.int (own_ed p5)), .val (.ref b6), .val (.int (1 : Int32))] [(.int (1 : Int32))])) (fun t k => XS.iload X10.here hx rfl (hb hby at_102) rfl k) ?_
    refine Goes.via (B := T10.setTop (mkF m 107 #[.val (.long p1), .second, .val (.long p2), .second, .val (.long p3), .second, .val (.int p4), .val (.int p5), .val (.int p6), .val (.ref r1), .val (.ref r2), .val (.int (own_ta p5)), .val (.int (own_tr p5)), .val (.int (own_ed p5)), .val (.ref b6), .val (.int (1 : Int32))] [])) (fun t k => XS.ifNo X10.here hx rfl (hb hby at_104) rfl ((if0 _ _).trans (feq (by decide : ¬ (1 : Int32) = (0 : Int32))).1) k) ?_
    refine Goes.via (B := T10.setTop (mkF m 109 #[.val (.long p1), .second, .val (.long p2), .second, .val (.long p3), .second, .val (.int p4), .val (.int p5), .val (.int p6), .val (.ref r1), .val (.ref r2), .val (.int (own_ta p5)), .val (.int (own_tr p5)), .val (.int (own_ed p5)), .val (.ref b6), .val (.int (1 : Int32))] [(.ref b6)])) (fun t k => XS.aload X10.here hx rfl (hb hby at_107) rfl rfl k) ?_
    obtain ⟨cq11, kq11, qa11, qb11, qc11⟩ := isOf hZ hq10 Ab6_9
    obtain ⟨_, _, ⟨T11, L11, kk11, nn11⟩, -, X11, ⟨Lc11, hQ11, l11, y11, z11⟩, st11⟩ := X10.virtualBack hx (y := (⟨"com/example/highwater/highwater/sweep/QueueLayout$RunReader", "tableAt", "()I"⟩ : MethodName)) (z := (⟨"com/example/highwater/highwater/sweep/QueueLayout$RunReader", "tableAt", "()I"⟩ : MethodName)) hown (mvT hZ (hw _ (List.mem_of_getElem? (i := 88) rfl))) (mvT hZ (hw _ (List.mem_of_getElem? (i := 89) rfl))) (notFace_of_selects (args := #[]) (mvT hZ (hw _ (List.mem_of_getElem? (i := 91) rfl)))) (mvT hZ (hw _ (List.mem_of_getElem? (i := 91) rfl))) (mvT hZ (hw _ (List.mem_of_getElem? (i := 90) rfl))) (by decide) (backOf (W := 0) (rm12 l Z a0 hw [] b6 (-1 : Int32) T9.heap n0 Z9 Fb6_tableAt_9) hZ (hw _ (List.mem_of_getElem? (i := 92) rfl)) (hw _ (List.mem_of_getElem? (i := 13) rfl)) (by decide) (by decide)) qa11 qc11 (g := (mkF m 109 #[.val (.long p1), .second, .val (.long p2), .second, .val (.long p3), .second, .val (.int p4), .val (.int p5), .val (.int p6), .val (.ref r1), .val (.ref r2), .val (.int (own_ta p5)), .val (.int (own_tr p5)), .val (.int (own_ed p5)), .val (.ref b6), .val (.int (1 : Int32))] [(.ref b6)])) rfl (by rw [hml]; rfl) (Steps.refl _) (argsL := []) (rest := []) (lenOf pd___I rfl) rfl (by show 2 * 0 + _ ≤ _; exact Nat.le_of_eq rfl) (hb hby at_109) (fun _ _ => ⟨rfl, hq10, (by decide : 3 + 0 ≤ _), (by decide : 25 + 0 ≤ _)⟩)
    dsimp only [Pt.U, Pt.locs, Pt.cells, Pt.slots] at X11 l11 y11 z11 st11 hQ11
    subst l11 y11 z11
    obtain ⟨rfl, Nq11, hq11⟩ := hQ11
    have N11 := Fr.app N10 Nq11
    refine Goes.via (B := T11.setTop (mkF m 112 #[.val (.long p1), .second, .val (.long p2), .second, .val (.long p3), .second, .val (.int p4), .val (.int p5), .val (.int p6), .val (.ref r1), .val (.ref r2), .val (.int (own_ta p5)), .val (.int (own_tr p5)), .val (.int (own_ed p5)), .val (.ref b6), .val (.int (1 : Int32))] [(.int (-1 : Int32))])) (fun t k => st11.trans k) ?_
    refine Goes.via (B := T11.setTop (mkF m 113 #[.val (.long p1), .second, .val (.long p2), .second, .val (.long p3), .second, .val (.int p4), .val (.int p5), .val (.int p6), .val (.ref r1), .val (.ref r2), .val (.int (own_ta p5)), .val (.int (own_tr p5)), .val (.int (own_ed p5)), .val (.ref b6), .val (.int (1 : Int32))] [(.int (-1 : Int32)), (.int (-1 : Int32))])) (fun t k => XS.iconst X11.here hx rfl (hb hby at_112) k) ?_
    refine Goes.via (B := T11.setTop (mkF m 116 #[.val (.long p1), .second, .val (.long p2), .second, .val (.long p3), .second, .val (.int p4), .val (.int p5), .val (.int p6), .val (.ref r1), .val (.ref r2), .val (.int (own_ta p5)), .val (.int (own_tr p5)), .val (.int (own_ed p5)), .val (.ref b6), .val (.int (1 : Int32))] [])) (fun t k => XS.icmpNo X11.here hx rfl (hb hby at_113) rfl (teq (by decide : (-1 : Int32) = (-1 : Int32))).2 k) ?_
    refine Goes.via (B := T11.setTop (mkF m 117 #[.val (.long p1), .second, .val (.long p2), .second, .val (.long p3), .second, .val (.int p4), .val (.int p5), .val (.int p6), .val (.ref r1), .val (.ref r2), .val (.int (own_ta p5)), .val (.int (own_tr p5)), .val (.int (own_ed p5)), .val (.ref b6), .val (.int (1 : Int32))] [(.int (1 : Int32))])) (fun t k => XS.iconst X11.here hx rfl (hb hby at_116) k) ?_
    refine Goes.via (B := T11.setTop (mkF m 121 #[.val (.long p1), .second, .val (.long p2), .second, .val (.long p3), .second, .val (.int p4), .val (.int p5), .val (.int p6), .val (.ref r1), .val (.ref r2), .val (.int (own_ta p5)), .val (.int (own_tr p5)), .val (.int (own_ed p5)), .val (.ref b6), .val (.int (1 : Int32))] [(.int (1 : Int32))])) (fun t k => XS.goto X11.here hx rfl (pc0 := 117) (pc' := 121) rfl (hb hby at_117) (by decide) (by decide) k) ?_
    refine Goes.via (B := T11.setTop (mkF m 123 #[.val (.long p1), .second, .val (.long p2), .second, .val (.long p3), .second, .val (.int p4), .val (.int p5), .val (.int p6), .val (.ref r1), .val (.ref r2), .val (.int (own_ta p5)), .val (.int (own_tr p5)), .val (.int (own_ed p5)), .val (.ref b6), .val (.int (1 : Int32))] [])) (fun t k => XS.istore X11.here hx rfl (hb hby at_121) rfl (l' := #[.val (.long p1), .second, .val (.long p2), .second, .val (.long p3), .second, .val (.int p4), .val (.int p5), .val (.int p6), .val (.ref r1), .val (.ref r2), .val (.int (own_ta p5)), .val (.int (own_tr p5)), .val (.int (own_ed p5)), .val (.ref b6), .val (.int (1 : Int32))]) rfl k) ?_
    refine Goes.via (B := T11.setTop (mkF m 125 #[.val (.long p1), .second, .val (.long p2), .second, .val (.long p3), .second, .val (.int p4), .val (.int p5), .val (.int p6), .val (.ref r1), .val (.ref r2), .val (.int (own_ta p5)), .val (.int (own_tr p5)), .val (.int (own_ed p5)), .val (.ref b6), .val (.int (1 : Int32))] [(.int (1 : Int32))])) (fun t k => XS.iload X11.here hx rfl (hb hby at_123) rfl k) ?_
    refine Goes.via (B := T11.setTop (mkF m 128 #[.val (.long p1), .second, .val (.long p2), .second, .val (.long p3), .second, .val (.int p4), .val (.int p5), .val (.int p6), .val (.ref r1), .val (.ref r2), .val (.int (own_ta p5)), .val (.int (own_tr p5)), .val (.int (own_ed p5)), .val (.ref b6), .val (.int (1 : Int32))] [])) (fun t k => XS.ifNo X11.here hx rfl (hb hby at_125) rfl ((if0 _ _).trans (feq (by decide : ¬ (1 : Int32) = (0 : Int32))).1) k) ?_
    refine Goes.via (B := T11.setTop (mkF m 130 #[.val (.long p1), .second, .val (.long p2), .second, .val (.long p3), .second, .val (.int p4), .val (.int p5), .val (.int p6), .val (.ref r1), .val (.ref r2), .val (.int (own_ta p5)), .val (.int (own_tr p5)), .val (.int (own_ed p5)), .val (.ref b6), .val (.int (1 : Int32))] [(.ref b6)])) (fun t k => XS.aload X11.here hx rfl (hb hby at_128) rfl rfl k) ?_
    obtain ⟨cq12, kq12, qa12, qb12, qc12⟩ := isOf hZ hq11 Ab6_9
    obtain ⟨_, _, ⟨T12, L12, kk12, nn12⟩, -, X12, hB12, gr12, ⟨Lc12, hQ12, l12, y12, z12⟩, st12⟩ := X11.virtualBackS hx (y := (⟨"com/example/highwater/highwater/sweep/QueueLayout$RunReader", "next", "()Z"⟩ : MethodName)) (z := (⟨"com/example/highwater/highwater/sweep/QueueLayout$RunReader", "next", "()Z"⟩ : MethodName)) hown (mvT hZ (hw _ (List.mem_of_getElem? (i := 33) rfl))) (mvT hZ (hw _ (List.mem_of_getElem? (i := 34) rfl))) (notFace_of_selects (args := #[]) (mvT hZ (hw _ (List.mem_of_getElem? (i := 36) rfl)))) (mvT hZ (hw _ (List.mem_of_getElem? (i := 36) rfl))) (mvT hZ (hw _ (List.mem_of_getElem? (i := 35) rfl))) (by decide) (backOfS (W := 0) (rm7 l Z a0 hw [] b6 r2 kq2 vs2 p1 (-1 : Int32) (0 : Int32) (0 : Int32) (0 : Int32) (0 : Int32) (0 : Int32) (0 : Int32) (0 : Int32) (own_kd p5) (own_ta p5) (own_tr p5) (own_tc p5) T9.heap n0 Z9 ⟨Ab6_9, Fb6_run_9, Fb6_start_9, Fb6_next_9, Fb6_tableAt_9, Fb6_tableLength_9, Fb6_rowAt_9, Fb6_rowLength_9, Fb6_columnAt_9, Fb6_columnLength_9, Fb6_deletion_9, Fb6_namesRow_9⟩ Vr2_9 ne_r2_b6 g_b6 (own_kd01 p5) hok2 (own_abcOf p5)) hZ (hw _ (List.mem_of_getElem? (i := 37) rfl)) (hw _ (List.mem_of_getElem? (i := 13) rfl)) (by decide) (by decide)) qa12 qc12 (g := (mkF m 130 #[.val (.long p1), .second, .val (.long p2), .second, .val (.long p3), .second, .val (.int p4), .val (.int p5), .val (.int p6), .val (.ref r1), .val (.ref r2), .val (.int (own_ta p5)), .val (.int (own_tr p5)), .val (.int (own_ed p5)), .val (.ref b6), .val (.int (1 : Int32))] [(.ref b6)])) rfl (by rw [hml]; rfl) (Steps.refl _) (argsL := []) (rest := []) (lenOf pd___Z rfl) rfl (by show 2 * 0 + _ ≤ _; exact Nat.le_of_eq rfl) (hb hby at_130) (fun _ _ => ⟨rfl, hq11, (by decide : 3 + 6 ≤ _), (by decide : 25 + 444 ≤ _)⟩)
    dsimp only [Pt.U, Pt.locs, Pt.cells, Pt.slots] at X12 l12 y12 z12 st12 hQ12 hB12 gr12
    subst l12 y12 z12
    obtain ⟨X12, hS12, hZ, hown⟩ := rebS (s := s) hS0 (show _ ≤ T11.heap.size by rw [hq11]; exact hk9) X12 hB12 gr12 hZ hown
    obtain ⟨rfl, Nq12, Kq12, Rq12⟩ := hQ12
    have N12 := Fr.app N11 Nq12
    have Vr1_12 := Vr1_9.keep Kq12 (ninS ne_r1_b6 nin0)
    have Vr2_12 := Vr2_9.keep Kq12 (ninS ne_r2_b6 nin0)
    have Eb6_12 := Ab6_9.keep Kq12
    obtain ⟨Ab6_12, Fb6_run_12, Fb6_start_12, Fb6_next_12, Fb6_tableAt_12, Fb6_tableLength_12, Fb6_rowAt_12, Fb6_rowLength_12, Fb6_columnAt_12, Fb6_columnLength_12, Fb6_deletion_12, Fb6_namesRow_12⟩ := Rq12
    have Z12 : n0 ≤ T12.heap.size := Nat.le_trans Z9 Kq12.1
    have eq12 : T12.heap = T12.heap := rfl
    have hk12 : T12.heap.size ≤ T12.heap.size := Nat.le_refl _
    refine Goes.via (B := T12.setTop (mkF m 133 #[.val (.long p1), .second, .val (.long p2), .second, .val (.long p3), .second, .val (.int p4), .val (.int p5), .val (.int p6), .val (.ref r1), .val (.ref r2), .val (.int (own_ta p5)), .val (.int (own_tr p5)), .val (.int (own_ed p5)), .val (.ref b6), .val (.int (1 : Int32))] [(.int (1 : Int32))])) (fun t k => st12.trans k) ?_
    refine Goes.via (B := T12.setTop (mkF m 136 #[.val (.long p1), .second, .val (.long p2), .second, .val (.long p3), .second, .val (.int p4), .val (.int p5), .val (.int p6), .val (.ref r1), .val (.ref r2), .val (.int (own_ta p5)), .val (.int (own_tr p5)), .val (.int (own_ed p5)), .val (.ref b6), .val (.int (1 : Int32))] [])) (fun t k => XS.ifNo X12.here hx rfl (hb hby at_133) rfl ((if0 _ _).trans (feq (by decide : ¬ (1 : Int32) = (0 : Int32))).1) k) ?_
    refine Goes.via (B := T12.setTop (mkF m 137 #[.val (.long p1), .second, .val (.long p2), .second, .val (.long p3), .second, .val (.int p4), .val (.int p5), .val (.int p6), .val (.ref r1), .val (.ref r2), .val (.int (own_ta p5)), .val (.int (own_tr p5)), .val (.int (own_ed p5)), .val (.ref b6), .val (.int (1 : Int32))] [(.int (1 : Int32))])) (fun t k => XS.iconst X12.here hx rfl (hb hby at_136) k) ?_
    refine Goes.via (B := T12.setTop (mkF m 141 #[.val (.long p1), .second, .val (.long p2), .second, .val (.long p3), .second, .val (.int p4), .val (.int p5), .val (.int p6), .val (.ref r1), .val (.ref r2), .val (.int (own_ta p5)), .val (.int (own_tr p5)), .val (.int (own_ed p5)), .val (.ref b6), .val (.int (1 : Int32))] [(.int (1 : Int32))])) (fun t k => XS.goto X12.here hx rfl (pc0 := 137) (pc' := 141) rfl (hb hby at_137) (by decide) (by decide) k) ?_
    refine Goes.via (B := T12.setTop (mkF m 143 #[.val (.long p1), .second, .val (.long p2), .second, .val (.long p3), .second, .val (.int p4), .val (.int p5), .val (.int p6), .val (.ref r1), .val (.ref r2), .val (.int (own_ta p5)), .val (.int (own_tr p5)), .val (.int (own_ed p5)), .val (.ref b6), .val (.int (1 : Int32))] [])) (fun t k => XS.istore X12.here hx rfl (hb hby at_141) rfl (l' := #[.val (.long p1), .second, .val (.long p2), .second, .val (.long p3), .second, .val (.int p4), .val (.int p5), .val (.int p6), .val (.ref r1), .val (.ref r2), .val (.int (own_ta p5)), .val (.int (own_tr p5)), .val (.int (own_ed p5)), .val (.ref b6), .val (.int (1 : Int32))]) rfl k) ?_
    refine Goes.via (B := T12.setTop (mkF m 145 #[.val (.long p1), .second, .val (.long p2), .second, .val (.long p3), .second, .val (.int p4), .val (.int p5), .val (.int p6), .val (.ref r1), .val (.ref r2), .val (.int (own_ta p5)), .val (.int (own_tr p5)), .val (.int (own_ed p5)), .val (.ref b6), .val (.int (1 : Int32))] [(.int (1 : Int32))])) (fun t k => XS.iload X12.here hx rfl (hb hby at_143) rfl k) ?_
    refine Goes.via (B := T12.setTop (mkF m 148 #[.val (.long p1), .second, .val (.long p2), .second, .val (.long p3), .second, .val (.int p4), .val (.int p5), .val (.int p6), .val (.ref r1), .val (.ref r2), .val (.int (own_ta p5)), .val (.int (own_tr p5)), .val (.int (own_ed p5)), .val (.ref b6), .val (.int (1 : Int32))] [])) (fun t k => XS.ifNo X12.here hx rfl (hb hby at_145) rfl ((if0 _ _).trans (feq (by decide : ¬ (1 : Int32) = (0 : Int32))).1) k) ?_
    refine Goes.via (B := T12.setTop (mkF m 150 #[.val (.long p1), .second, .val (.long p2), .second, .val (.long p3), .second, .val (.int p4), .val (.int p5), .val (.int p6), .val (.ref r1), .val (.ref r2), .val (.int (own_ta p5)), .val (.int (own_tr p5)), .val (.int (own_ed p5)), .val (.ref b6), .val (.int (1 : Int32))] [(.ref b6)])) (fun t k => XS.aload X12.here hx rfl (hb hby at_148) rfl rfl k) ?_
    obtain ⟨cq13, kq13, qa13, qb13, qc13⟩ := isOf hZ eq12 Ab6_12
    obtain ⟨_, _, ⟨T13, L13, kk13, nn13⟩, -, X13, ⟨Lc13, hQ13, l13, y13, z13⟩, st13⟩ := X12.virtualBack hx (y := (⟨"com/example/highwater/highwater/sweep/QueueLayout$RunReader", "rowAt", "()I"⟩ : MethodName)) (z := (⟨"com/example/highwater/highwater/sweep/QueueLayout$RunReader", "rowAt", "()I"⟩ : MethodName)) hown (mvT hZ (hw _ (List.mem_of_getElem? (i := 93) rfl))) (mvT hZ (hw _ (List.mem_of_getElem? (i := 94) rfl))) (notFace_of_selects (args := #[]) (mvT hZ (hw _ (List.mem_of_getElem? (i := 96) rfl)))) (mvT hZ (hw _ (List.mem_of_getElem? (i := 96) rfl))) (mvT hZ (hw _ (List.mem_of_getElem? (i := 95) rfl))) (by decide) (backOf (W := 0) (rm13 l Z a0 hw [] b6 ((own_nx (own_nx (1 : Int32) (own_ta p5)) (own_tr p5)) - (own_tr p5)) T12.heap n0 Z12 Fb6_rowAt_12) hZ (hw _ (List.mem_of_getElem? (i := 97) rfl)) (hw _ (List.mem_of_getElem? (i := 13) rfl)) (by decide) (by decide)) qa13 qc13 (g := (mkF m 150 #[.val (.long p1), .second, .val (.long p2), .second, .val (.long p3), .second, .val (.int p4), .val (.int p5), .val (.int p6), .val (.ref r1), .val (.ref r2), .val (.int (own_ta p5)), .val (.int (own_tr p5)), .val (.int (own_ed p5)), .val (.ref b6), .val (.int (1 : Int32))] [(.ref b6)])) rfl (by rw [hml]; rfl) (Steps.refl _) (argsL := []) (rest := []) (lenOf pd___I rfl) rfl (by show 2 * 0 + _ ≤ _; exact Nat.le_of_eq rfl) (hb hby at_150) (fun _ _ => ⟨rfl, eq12, (by decide : 9 + 0 ≤ _), (by decide : 469 + 0 ≤ _)⟩)
    dsimp only [Pt.U, Pt.locs, Pt.cells, Pt.slots] at X13 l13 y13 z13 st13 hQ13
    subst l13 y13 z13
    obtain ⟨rfl, Nq13, hq13⟩ := hQ13
    have N13 := Fr.app N12 Nq13
    refine Goes.via (B := T13.setTop (mkF m 153 #[.val (.long p1), .second, .val (.long p2), .second, .val (.long p3), .second, .val (.int p4), .val (.int p5), .val (.int p6), .val (.ref r1), .val (.ref r2), .val (.int (own_ta p5)), .val (.int (own_tr p5)), .val (.int (own_ed p5)), .val (.ref b6), .val (.int (1 : Int32))] [(.int ((own_nx (own_nx (1 : Int32) (own_ta p5)) (own_tr p5)) - (own_tr p5)))])) (fun t k => st13.trans k) ?_
    refine Goes.via (B := T13.setTop (mkF m 154 #[.val (.long p1), .second, .val (.long p2), .second, .val (.long p3), .second, .val (.int p4), .val (.int p5), .val (.int p6), .val (.ref r1), .val (.ref r2), .val (.int (own_ta p5)), .val (.int (own_tr p5)), .val (.int (own_ed p5)), .val (.ref b6), .val (.int (1 : Int32))] [(.int (3 : Int32)), (.int ((own_nx (own_nx (1 : Int32) (own_ta p5)) (own_tr p5)) - (own_tr p5)))])) (fun t k => XS.iconst X13.here hx rfl (hb hby at_153) k) ?_
    refine Goes.via (B := T13.setTop (mkF m 156 #[.val (.long p1), .second, .val (.long p2), .second, .val (.long p3), .second, .val (.int p4), .val (.int p5), .val (.int p6), .val (.ref r1), .val (.ref r2), .val (.int (own_ta p5)), .val (.int (own_tr p5)), .val (.int (own_ed p5)), .val (.ref b6), .val (.int (1 : Int32))] [(.int (own_ta p5)), (.int (3 : Int32)), (.int ((own_nx (own_nx (1 : Int32) (own_ta p5)) (own_tr p5)) - (own_tr p5)))])) (fun t k => XS.iload X13.here hx rfl (hb hby at_154) rfl k) ?_
    refine Goes.via (B := T13.setTop (mkF m 157 #[.val (.long p1), .second, .val (.long p2), .second, .val (.long p3), .second, .val (.int p4), .val (.int p5), .val (.int p6), .val (.ref r1), .val (.ref r2), .val (.int (own_ta p5)), .val (.int (own_tr p5)), .val (.int (own_ed p5)), .val (.ref b6), .val (.int (1 : Int32))] [(.int ((3 : Int32) + (own_ta p5))), (.int ((own_nx (own_nx (1 : Int32) (own_ta p5)) (own_tr p5)) - (own_tr p5)))])) (fun t k => XS.iadd X13.here hx rfl (hb hby at_156) rfl k) ?_
    refine Goes.via (B := T13.setTop (mkF m 160 #[.val (.long p1), .second, .val (.long p2), .second, .val (.long p3), .second, .val (.int p4), .val (.int p5), .val (.int p6), .val (.ref r1), .val (.ref r2), .val (.int (own_ta p5)), .val (.int (own_tr p5)), .val (.int (own_ed p5)), .val (.ref b6), .val (.int (1 : Int32))] [])) (fun t k => XS.icmpNo X13.here hx rfl (hb hby at_157) rfl (teq (own_row p5)).2 k) ?_
    refine Goes.via (B := T13.setTop (mkF m 161 #[.val (.long p1), .second, .val (.long p2), .second, .val (.long p3), .second, .val (.int p4), .val (.int p5), .val (.int p6), .val (.ref r1), .val (.ref r2), .val (.int (own_ta p5)), .val (.int (own_tr p5)), .val (.int (own_ed p5)), .val (.ref b6), .val (.int (1 : Int32))] [(.int (1 : Int32))])) (fun t k => XS.iconst X13.here hx rfl (hb hby at_160) k) ?_
    refine Goes.via (B := T13.setTop (mkF m 165 #[.val (.long p1), .second, .val (.long p2), .second, .val (.long p3), .second, .val (.int p4), .val (.int p5), .val (.int p6), .val (.ref r1), .val (.ref r2), .val (.int (own_ta p5)), .val (.int (own_tr p5)), .val (.int (own_ed p5)), .val (.ref b6), .val (.int (1 : Int32))] [(.int (1 : Int32))])) (fun t k => XS.goto X13.here hx rfl (pc0 := 161) (pc' := 165) rfl (hb hby at_161) (by decide) (by decide) k) ?_
    refine Goes.via (B := T13.setTop (mkF m 167 #[.val (.long p1), .second, .val (.long p2), .second, .val (.long p3), .second, .val (.int p4), .val (.int p5), .val (.int p6), .val (.ref r1), .val (.ref r2), .val (.int (own_ta p5)), .val (.int (own_tr p5)), .val (.int (own_ed p5)), .val (.ref b6), .val (.int (1 : Int32))] [])) (fun t k => XS.istore X13.here hx rfl (hb hby at_165) rfl (l' := #[.val (.long p1), .second, .val (.long p2), .second, .val (.long p3), .second, .val (.int p4), .val (.int p5), .val (.int p6), .val (.ref r1), .val (.ref r2), .val (.int (own_ta p5)), .val (.int (own_tr p5)), .val (.int (own_ed p5)), .val (.ref b6), .val (.int (1 : Int32))]) rfl k) ?_
    refine Goes.via (B := T13.setTop (mkF m 169 #[.val (.long p1), .second, .val (.long p2), .second, .val (.long p3), .second, .val (.int p4), .val (.int p5), .val (.int p6), .val (.ref r1), .val (.ref r2), .val (.int (own_ta p5)), .val (.int (own_tr p5)), .val (.int (own_ed p5)), .val (.ref b6), .val (.int (1 : Int32))] [(.int (1 : Int32))])) (fun t k => XS.iload X13.here hx rfl (hb hby at_167) rfl k) ?_
    refine Goes.via (B := T13.setTop (mkF m 172 #[.val (.long p1), .second, .val (.long p2), .second, .val (.long p3), .second, .val (.int p4), .val (.int p5), .val (.int p6), .val (.ref r1), .val (.ref r2), .val (.int (own_ta p5)), .val (.int (own_tr p5)), .val (.int (own_ed p5)), .val (.ref b6), .val (.int (1 : Int32))] [])) (fun t k => XS.ifNo X13.here hx rfl (hb hby at_169) rfl ((if0 _ _).trans (feq (by decide : ¬ (1 : Int32) = (0 : Int32))).1) k) ?_
    refine Goes.via (B := T13.setTop (mkF m 174 #[.val (.long p1), .second, .val (.long p2), .second, .val (.long p3), .second, .val (.int p4), .val (.int p5), .val (.int p6), .val (.ref r1), .val (.ref r2), .val (.int (own_ta p5)), .val (.int (own_tr p5)), .val (.int (own_ed p5)), .val (.ref b6), .val (.int (1 : Int32))] [(.ref b6)])) (fun t k => XS.aload X13.here hx rfl (hb hby at_172) rfl rfl k) ?_
    obtain ⟨cq14, kq14, qa14, qb14, qc14⟩ := isOf hZ hq13 Ab6_12
    obtain ⟨_, _, ⟨T14, L14, kk14, nn14⟩, -, X14, ⟨Lc14, hQ14, l14, y14, z14⟩, st14⟩ := X13.virtualBack hx (y := (⟨"com/example/highwater/highwater/sweep/QueueLayout$RunReader", "columnAt", "()I"⟩ : MethodName)) (z := (⟨"com/example/highwater/highwater/sweep/QueueLayout$RunReader", "columnAt", "()I"⟩ : MethodName)) hown (mvT hZ (hw _ (List.mem_of_getElem? (i := 98) rfl))) (mvT hZ (hw _ (List.mem_of_getElem? (i := 99) rfl))) (notFace_of_selects (args := #[]) (mvT hZ (hw _ (List.mem_of_getElem? (i := 101) rfl)))) (mvT hZ (hw _ (List.mem_of_getElem? (i := 101) rfl))) (mvT hZ (hw _ (List.mem_of_getElem? (i := 100) rfl))) (by decide) (backOf (W := 0) (rm14 l Z a0 hw [] b6 ((own_nx (own_nx (own_nx (1 : Int32) (own_ta p5)) (own_tr p5)) (own_tc p5)) - (own_tc p5)) T12.heap n0 Z12 Fb6_columnAt_12) hZ (hw _ (List.mem_of_getElem? (i := 102) rfl)) (hw _ (List.mem_of_getElem? (i := 13) rfl)) (by decide) (by decide)) qa14 qc14 (g := (mkF m 174 #[.val (.long p1), .second, .val (.long p2), .second, .val (.long p3), .second, .val (.int p4), .val (.int p5), .val (.int p6), .val (.ref r1), .val (.ref r2), .val (.int (own_ta p5)), .val (.int (own_tr p5)), .val (.int (own_ed p5)), .val (.ref b6), .val (.int (1 : Int32))] [(.ref b6)])) rfl (by rw [hml]; rfl) (Steps.refl _) (argsL := []) (rest := []) (lenOf pd___I rfl) rfl (by show 2 * 0 + _ ≤ _; exact Nat.le_of_eq rfl) (hb hby at_174) (fun _ _ => ⟨rfl, hq13, (by decide : 9 + 0 ≤ _), (by decide : 469 + 0 ≤ _)⟩)
    dsimp only [Pt.U, Pt.locs, Pt.cells, Pt.slots] at X14 l14 y14 z14 st14 hQ14
    subst l14 y14 z14
    obtain ⟨rfl, Nq14, hq14⟩ := hQ14
    have N14 := Fr.app N13 Nq14
    refine Goes.via (B := T14.setTop (mkF m 177 #[.val (.long p1), .second, .val (.long p2), .second, .val (.long p3), .second, .val (.int p4), .val (.int p5), .val (.int p6), .val (.ref r1), .val (.ref r2), .val (.int (own_ta p5)), .val (.int (own_tr p5)), .val (.int (own_ed p5)), .val (.ref b6), .val (.int (1 : Int32))] [(.int ((own_nx (own_nx (own_nx (1 : Int32) (own_ta p5)) (own_tr p5)) (own_tc p5)) - (own_tc p5)))])) (fun t k => st14.trans k) ?_
    refine Goes.via (B := T14.setTop (mkF m 178 #[.val (.long p1), .second, .val (.long p2), .second, .val (.long p3), .second, .val (.int p4), .val (.int p5), .val (.int p6), .val (.ref r1), .val (.ref r2), .val (.int (own_ta p5)), .val (.int (own_tr p5)), .val (.int (own_ed p5)), .val (.ref b6), .val (.int (1 : Int32))] [(.int (4 : Int32)), (.int ((own_nx (own_nx (own_nx (1 : Int32) (own_ta p5)) (own_tr p5)) (own_tc p5)) - (own_tc p5)))])) (fun t k => XS.iconst X14.here hx rfl (hb hby at_177) k) ?_
    refine Goes.via (B := T14.setTop (mkF m 180 #[.val (.long p1), .second, .val (.long p2), .second, .val (.long p3), .second, .val (.int p4), .val (.int p5), .val (.int p6), .val (.ref r1), .val (.ref r2), .val (.int (own_ta p5)), .val (.int (own_tr p5)), .val (.int (own_ed p5)), .val (.ref b6), .val (.int (1 : Int32))] [(.int (own_ta p5)), (.int (4 : Int32)), (.int ((own_nx (own_nx (own_nx (1 : Int32) (own_ta p5)) (own_tr p5)) (own_tc p5)) - (own_tc p5)))])) (fun t k => XS.iload X14.here hx rfl (hb hby at_178) rfl k) ?_
    refine Goes.via (B := T14.setTop (mkF m 181 #[.val (.long p1), .second, .val (.long p2), .second, .val (.long p3), .second, .val (.int p4), .val (.int p5), .val (.int p6), .val (.ref r1), .val (.ref r2), .val (.int (own_ta p5)), .val (.int (own_tr p5)), .val (.int (own_ed p5)), .val (.ref b6), .val (.int (1 : Int32))] [(.int ((4 : Int32) + (own_ta p5))), (.int ((own_nx (own_nx (own_nx (1 : Int32) (own_ta p5)) (own_tr p5)) (own_tc p5)) - (own_tc p5)))])) (fun t k => XS.iadd X14.here hx rfl (hb hby at_180) rfl k) ?_
    refine Goes.via (B := T14.setTop (mkF m 183 #[.val (.long p1), .second, .val (.long p2), .second, .val (.long p3), .second, .val (.int p4), .val (.int p5), .val (.int p6), .val (.ref r1), .val (.ref r2), .val (.int (own_ta p5)), .val (.int (own_tr p5)), .val (.int (own_ed p5)), .val (.ref b6), .val (.int (1 : Int32))] [(.int (own_tr p5)), (.int ((4 : Int32) + (own_ta p5))), (.int ((own_nx (own_nx (own_nx (1 : Int32) (own_ta p5)) (own_tr p5)) (own_tc p5)) - (own_tc p5)))])) (fun t k => XS.iload X14.here hx rfl (hb hby at_181) rfl k) ?_
    refine Goes.via (B := T14.setTop (mkF m 184 #[.val (.long p1), .second, .val (.long p2), .second, .val (.long p3), .second, .val (.int p4), .val (.int p5), .val (.int p6), .val (.ref r1), .val (.ref r2), .val (.int (own_ta p5)), .val (.int (own_tr p5)), .val (.int (own_ed p5)), .val (.ref b6), .val (.int (1 : Int32))] [(.int (((4 : Int32) + (own_ta p5)) + (own_tr p5))), (.int ((own_nx (own_nx (own_nx (1 : Int32) (own_ta p5)) (own_tr p5)) (own_tc p5)) - (own_tc p5)))])) (fun t k => XS.iadd X14.here hx rfl (hb hby at_183) rfl k) ?_
    refine Goes.via (B := T14.setTop (mkF m 187 #[.val (.long p1), .second, .val (.long p2), .second, .val (.long p3), .second, .val (.int p4), .val (.int p5), .val (.int p6), .val (.ref r1), .val (.ref r2), .val (.int (own_ta p5)), .val (.int (own_tr p5)), .val (.int (own_ed p5)), .val (.ref b6), .val (.int (1 : Int32))] [])) (fun t k => XS.icmpNo X14.here hx rfl (hb hby at_184) rfl (teq (own_col p5)).2 k) ?_
    refine Goes.via (B := T14.setTop (mkF m 188 #[.val (.long p1), .second, .val (.long p2), .second, .val (.long p3), .second, .val (.int p4), .val (.int p5), .val (.int p6), .val (.ref r1), .val (.ref r2), .val (.int (own_ta p5)), .val (.int (own_tr p5)), .val (.int (own_ed p5)), .val (.ref b6), .val (.int (1 : Int32))] [(.int (1 : Int32))])) (fun t k => XS.iconst X14.here hx rfl (hb hby at_187) k) ?_
    refine Goes.via (B := T14.setTop (mkF m 192 #[.val (.long p1), .second, .val (.long p2), .second, .val (.long p3), .second, .val (.int p4), .val (.int p5), .val (.int p6), .val (.ref r1), .val (.ref r2), .val (.int (own_ta p5)), .val (.int (own_tr p5)), .val (.int (own_ed p5)), .val (.ref b6), .val (.int (1 : Int32))] [(.int (1 : Int32))])) (fun t k => XS.goto X14.here hx rfl (pc0 := 188) (pc' := 192) rfl (hb hby at_188) (by decide) (by decide) k) ?_
    refine Goes.via (B := T14.setTop (mkF m 194 #[.val (.long p1), .second, .val (.long p2), .second, .val (.long p3), .second, .val (.int p4), .val (.int p5), .val (.int p6), .val (.ref r1), .val (.ref r2), .val (.int (own_ta p5)), .val (.int (own_tr p5)), .val (.int (own_ed p5)), .val (.ref b6), .val (.int (1 : Int32))] [])) (fun t k => XS.istore X14.here hx rfl (hb hby at_192) rfl (l' := #[.val (.long p1), .second, .val (.long p2), .second, .val (.long p3), .second, .val (.int p4), .val (.int p5), .val (.int p6), .val (.ref r1), .val (.ref r2), .val (.int (own_ta p5)), .val (.int (own_tr p5)), .val (.int (own_ed p5)), .val (.ref b6), .val (.int (1 : Int32))]) rfl k) ?_
    refine Goes.via (B := T14.setTop (mkF m 196 #[.val (.long p1), .second, .val (.long p2), .second, .val (.long p3), .second, .val (.int p4), .val (.int p5), .val (.int p6), .val (.ref r1), .val (.ref r2), .val (.int (own_ta p5)), .val (.int (own_tr p5)), .val (.int (own_ed p5)), .val (.ref b6), .val (.int (1 : Int32))] [(.int (1 : Int32))])) (fun t k => XS.iload X14.here hx rfl (hb hby at_194) rfl k) ?_
    refine Goes.via (B := T14.setTop (mkF m 199 #[.val (.long p1), .second, .val (.long p2), .second, .val (.long p3), .second, .val (.int p4), .val (.int p5), .val (.int p6), .val (.ref r1), .val (.ref r2), .val (.int (own_ta p5)), .val (.int (own_tr p5)), .val (.int (own_ed p5)), .val (.ref b6), .val (.int (1 : Int32))] [])) (fun t k => XS.ifNo X14.here hx rfl (hb hby at_196) rfl ((if0 _ _).trans (feq (by decide : ¬ (1 : Int32) = (0 : Int32))).1) k) ?_
    refine Goes.via (B := T14.setTop (mkF m 201 #[.val (.long p1), .second, .val (.long p2), .second, .val (.long p3), .second, .val (.int p4), .val (.int p5), .val (.int p6), .val (.ref r1), .val (.ref r2), .val (.int (own_ta p5)), .val (.int (own_tr p5)), .val (.int (own_ed p5)), .val (.ref b6), .val (.int (1 : Int32))] [(.ref b6)])) (fun t k => XS.aload X14.here hx rfl (hb hby at_199) rfl rfl k) ?_
    obtain ⟨cq15, kq15, qa15, qb15, qc15⟩ := isOf hZ hq14 Ab6_12
    obtain ⟨_, _, ⟨T15, L15, kk15, nn15⟩, -, X15, ⟨Lc15, hQ15, l15, y15, z15⟩, st15⟩ := X14.virtualBack hx (y := (⟨"com/example/highwater/highwater/sweep/QueueLayout$RunReader", "deletion", "()Z"⟩ : MethodName)) (z := (⟨"com/example/highwater/highwater/sweep/QueueLayout$RunReader", "deletion", "()Z"⟩ : MethodName)) hown (mvT hZ (hw _ (List.mem_of_getElem? (i := 103) rfl))) (mvT hZ (hw _ (List.mem_of_getElem? (i := 104) rfl))) (notFace_of_selects (args := #[]) (mvT hZ (hw _ (List.mem_of_getElem? (i := 106) rfl)))) (mvT hZ (hw _ (List.mem_of_getElem? (i := 106) rfl))) (mvT hZ (hw _ (List.mem_of_getElem? (i := 105) rfl))) (by decide) (backOf (W := 0) (rm15 l Z a0 hw [] b6 (own_dl (own_kd p5)) T12.heap n0 Z12 Fb6_deletion_12 (own_dl01 _)) hZ (hw _ (List.mem_of_getElem? (i := 107) rfl)) (hw _ (List.mem_of_getElem? (i := 13) rfl)) (by decide) (by decide)) qa15 qc15 (g := (mkF m 201 #[.val (.long p1), .second, .val (.long p2), .second, .val (.long p3), .second, .val (.int p4), .val (.int p5), .val (.int p6), .val (.ref r1), .val (.ref r2), .val (.int (own_ta p5)), .val (.int (own_tr p5)), .val (.int (own_ed p5)), .val (.ref b6), .val (.int (1 : Int32))] [(.ref b6)])) rfl (by rw [hml]; rfl) (Steps.refl _) (argsL := []) (rest := []) (lenOf pd___Z rfl) rfl (by show 2 * 0 + _ ≤ _; exact Nat.le_of_eq rfl) (hb hby at_201) (fun _ _ => ⟨rfl, hq14, (by decide : 9 + 0 ≤ _), (by decide : 469 + 0 ≤ _)⟩)
    dsimp only [Pt.U, Pt.locs, Pt.cells, Pt.slots] at X15 l15 y15 z15 st15 hQ15
    subst l15 y15 z15
    obtain ⟨rfl, Nq15, hq15⟩ := hQ15
    have N15 := Fr.app N14 Nq15
    refine Goes.via (B := T15.setTop (mkF m 204 #[.val (.long p1), .second, .val (.long p2), .second, .val (.long p3), .second, .val (.int p4), .val (.int p5), .val (.int p6), .val (.ref r1), .val (.ref r2), .val (.int (own_ta p5)), .val (.int (own_tr p5)), .val (.int (own_ed p5)), .val (.ref b6), .val (.int (1 : Int32))] [(.int (own_dl (own_kd p5)))])) (fun t k => st15.trans k) ?_
    refine Goes.via (B := T15.setTop (mkF m 206 #[.val (.long p1), .second, .val (.long p2), .second, .val (.long p3), .second, .val (.int p4), .val (.int p5), .val (.int p6), .val (.ref r1), .val (.ref r2), .val (.int (own_ta p5)), .val (.int (own_tr p5)), .val (.int (own_ed p5)), .val (.ref b6), .val (.int (1 : Int32))] [(.int (own_ed p5)), (.int (own_dl (own_kd p5)))])) (fun t k => XS.iload X15.here hx rfl (hb hby at_204) rfl k) ?_
    refine Goes.via (B := T15.setTop (mkF m 209 #[.val (.long p1), .second, .val (.long p2), .second, .val (.long p3), .second, .val (.int p4), .val (.int p5), .val (.int p6), .val (.ref r1), .val (.ref r2), .val (.int (own_ta p5)), .val (.int (own_tr p5)), .val (.int (own_ed p5)), .val (.ref b6), .val (.int (1 : Int32))] [])) (fun t k => XS.icmpNo X15.here hx rfl (hb hby at_206) rfl (teq (rfl : own_dl (own_kd p5) = own_ed p5)).2 k) ?_
    refine Goes.via (B := T15.setTop (mkF m 210 #[.val (.long p1), .second, .val (.long p2), .second, .val (.long p3), .second, .val (.int p4), .val (.int p5), .val (.int p6), .val (.ref r1), .val (.ref r2), .val (.int (own_ta p5)), .val (.int (own_tr p5)), .val (.int (own_ed p5)), .val (.ref b6), .val (.int (1 : Int32))] [(.int (1 : Int32))])) (fun t k => XS.iconst X15.here hx rfl (hb hby at_209) k) ?_
    refine Goes.via (B := T15.setTop (mkF m 214 #[.val (.long p1), .second, .val (.long p2), .second, .val (.long p3), .second, .val (.int p4), .val (.int p5), .val (.int p6), .val (.ref r1), .val (.ref r2), .val (.int (own_ta p5)), .val (.int (own_tr p5)), .val (.int (own_ed p5)), .val (.ref b6), .val (.int (1 : Int32))] [(.int (1 : Int32))])) (fun t k => XS.goto X15.here hx rfl (pc0 := 210) (pc' := 214) rfl (hb hby at_210) (by decide) (by decide) k) ?_
    refine Goes.via (B := T15.setTop (mkF m 216 #[.val (.long p1), .second, .val (.long p2), .second, .val (.long p3), .second, .val (.int p4), .val (.int p5), .val (.int p6), .val (.ref r1), .val (.ref r2), .val (.int (own_ta p5)), .val (.int (own_tr p5)), .val (.int (own_ed p5)), .val (.ref b6), .val (.int (1 : Int32))] [])) (fun t k => XS.istore X15.here hx rfl (hb hby at_214) rfl (l' := #[.val (.long p1), .second, .val (.long p2), .second, .val (.long p3), .second, .val (.int p4), .val (.int p5), .val (.int p6), .val (.ref r1), .val (.ref r2), .val (.int (own_ta p5)), .val (.int (own_tr p5)), .val (.int (own_ed p5)), .val (.ref b6), .val (.int (1 : Int32))]) rfl k) ?_
    refine Goes.via (B := T15.setTop (mkF m 218 #[.val (.long p1), .second, .val (.long p2), .second, .val (.long p3), .second, .val (.int p4), .val (.int p5), .val (.int p6), .val (.ref r1), .val (.ref r2), .val (.int (own_ta p5)), .val (.int (own_tr p5)), .val (.int (own_ed p5)), .val (.ref b6), .val (.int (1 : Int32))] [(.int (1 : Int32))])) (fun t k => XS.iload X15.here hx rfl (hb hby at_216) rfl k) ?_
    refine Goes.via (B := T15.setTop (mkF m 221 #[.val (.long p1), .second, .val (.long p2), .second, .val (.long p3), .second, .val (.int p4), .val (.int p5), .val (.int p6), .val (.ref r1), .val (.ref r2), .val (.int (own_ta p5)), .val (.int (own_tr p5)), .val (.int (own_ed p5)), .val (.ref b6), .val (.int (1 : Int32))] [])) (fun t k => XS.ifNo X15.here hx rfl (hb hby at_218) rfl ((if0 _ _).trans (feq (by decide : ¬ (1 : Int32) = (0 : Int32))).1) k) ?_
    refine Goes.via (B := T15.setTop (mkF m 223 #[.val (.long p1), .second, .val (.long p2), .second, .val (.long p3), .second, .val (.int p4), .val (.int p5), .val (.int p6), .val (.ref r1), .val (.ref r2), .val (.int (own_ta p5)), .val (.int (own_tr p5)), .val (.int (own_ed p5)), .val (.ref b6), .val (.int (1 : Int32))] [(.ref b6)])) (fun t k => XS.aload X15.here hx rfl (hb hby at_221) rfl rfl k) ?_
    obtain ⟨cq16, kq16, qa16, qb16, qc16⟩ := isOf hZ hq15 Ab6_12
    obtain ⟨_, _, ⟨T16, L16, kk16, nn16⟩, -, X16, ⟨Lc16, hQ16, l16, y16, z16⟩, st16⟩ := X15.virtualBack hx (y := (⟨"com/example/highwater/highwater/sweep/QueueLayout$RunReader", "next", "()Z"⟩ : MethodName)) (z := (⟨"com/example/highwater/highwater/sweep/QueueLayout$RunReader", "next", "()Z"⟩ : MethodName)) hown (mvT hZ (hw _ (List.mem_of_getElem? (i := 33) rfl))) (mvT hZ (hw _ (List.mem_of_getElem? (i := 34) rfl))) (notFace_of_selects (args := #[]) (mvT hZ (hw _ (List.mem_of_getElem? (i := 36) rfl)))) (mvT hZ (hw _ (List.mem_of_getElem? (i := 36) rfl))) (mvT hZ (hw _ (List.mem_of_getElem? (i := 35) rfl))) (by decide) (backOf (W := 0) (rm8 l Z a0 hw [] b6 r2 kq2 vs2 (own_nx (own_nx (own_nx (1 : Int32) (own_ta p5)) (own_tr p5)) (own_tc p5)) T12.heap n0 Z12 Fb6_run_12 Fb6_next_12 Vr2_12 (own_seven p5)) hZ (hw _ (List.mem_of_getElem? (i := 37) rfl)) (hw _ (List.mem_of_getElem? (i := 13) rfl)) (by decide) (by decide)) qa16 qc16 (g := (mkF m 223 #[.val (.long p1), .second, .val (.long p2), .second, .val (.long p3), .second, .val (.int p4), .val (.int p5), .val (.int p6), .val (.ref r1), .val (.ref r2), .val (.int (own_ta p5)), .val (.int (own_tr p5)), .val (.int (own_ed p5)), .val (.ref b6), .val (.int (1 : Int32))] [(.ref b6)])) rfl (by rw [hml]; rfl) (Steps.refl _) (argsL := []) (rest := []) (lenOf pd___Z rfl) rfl (by show 2 * 0 + _ ≤ _; exact Nat.le_of_eq rfl) (hb hby at_223) (fun _ _ => ⟨rfl, hq15, (by decide : 9 + 0 ≤ _), (by decide : 469 + 0 ≤ _)⟩)
    dsimp only [Pt.U, Pt.locs, Pt.cells, Pt.slots] at X16 l16 y16 z16 st16 hQ16
    subst l16 y16 z16
    obtain ⟨rfl, Nq16, hq16⟩ := hQ16
    have N16 := Fr.app N15 Nq16
    refine Goes.via (B := T16.setTop (mkF m 226 #[.val (.long p1), .second, .val (.long p2), .second, .val (.long p3), .second, .val (.int p4), .val (.int p5), .val (.int p6), .val (.ref r1), .val (.ref r2), .val (.int (own_ta p5)), .val (.int (own_tr p5)), .val (.int (own_ed p5)), .val (.ref b6), .val (.int (1 : Int32))] [(.int (0 : Int32))])) (fun t k => st16.trans k) ?_
    refine Goes.via (B := T16.setTop (mkF m 229 #[.val (.long p1), .second, .val (.long p2), .second, .val (.long p3), .second, .val (.int p4), .val (.int p5), .val (.int p6), .val (.ref r1), .val (.ref r2), .val (.int (own_ta p5)), .val (.int (own_tr p5)), .val (.int (own_ed p5)), .val (.ref b6), .val (.int (1 : Int32))] [])) (fun t k => XS.ifNo X16.here hx rfl (hb hby at_226) rfl ((if0 _ _).trans (teq (by decide : (0 : Int32) = (0 : Int32))).2) k) ?_
    refine Goes.via (B := T16.setTop (mkF m 230 #[.val (.long p1), .second, .val (.long p2), .second, .val (.long p3), .second, .val (.int p4), .val (.int p5), .val (.int p6), .val (.ref r1), .val (.ref r2), .val (.int (own_ta p5)), .val (.int (own_tr p5)), .val (.int (own_ed p5)), .val (.ref b6), .val (.int (1 : Int32))] [(.int (1 : Int32))])) (fun t k => XS.iconst X16.here hx rfl (hb hby at_229) k) ?_
    refine Goes.via (B := T16.setTop (mkF m 234 #[.val (.long p1), .second, .val (.long p2), .second, .val (.long p3), .second, .val (.int p4), .val (.int p5), .val (.int p6), .val (.ref r1), .val (.ref r2), .val (.int (own_ta p5)), .val (.int (own_tr p5)), .val (.int (own_ed p5)), .val (.ref b6), .val (.int (1 : Int32))] [(.int (1 : Int32))])) (fun t k => XS.goto X16.here hx rfl (pc0 := 230) (pc' := 234) rfl (hb hby at_230) (by decide) (by decide) k) ?_
    refine Goes.via (B := T16.setTop (mkF m 236 #[.val (.long p1), .second, .val (.long p2), .second, .val (.long p3), .second, .val (.int p4), .val (.int p5), .val (.int p6), .val (.ref r1), .val (.ref r2), .val (.int (own_ta p5)), .val (.int (own_tr p5)), .val (.int (own_ed p5)), .val (.ref b6), .val (.int (1 : Int32))] [])) (fun t k => XS.istore X16.here hx rfl (hb hby at_234) rfl (l' := #[.val (.long p1), .second, .val (.long p2), .second, .val (.long p3), .second, .val (.int p4), .val (.int p5), .val (.int p6), .val (.ref r1), .val (.ref r2), .val (.int (own_ta p5)), .val (.int (own_tr p5)), .val (.int (own_ed p5)), .val (.ref b6), .val (.int (1 : Int32))]) rfl k) ?_
    refine Goes.via (B := T16.setTop (mkF m 238 #[.val (.long p1), .second, .val (.long p2), .second, .val (.long p3), .second, .val (.int p4), .val (.int p5), .val (.int p6), .val (.ref r1), .val (.ref r2), .val (.int (own_ta p5)), .val (.int (own_tr p5)), .val (.int (own_ed p5)), .val (.ref b6), .val (.int (1 : Int32))] [(.int (1 : Int32))])) (fun t k => XS.iload X16.here hx rfl (hb hby at_236) rfl k) ?_
    exact own_outW (s := s) X16 hS12 (by rw [hq16]; exact hk12) (v := some (.int (1 : Int32))) (fun h => by rw [Bd.returns] at h; cases h) Bd.notSynchronized (fun fs hr => retOut X16 hx Bd.returns rfl (Or.inl ⟨rfl, Or.inr (Or.inl rfl), _, rfl⟩) (hb hby at_238) hr) ⟨rfl, N16⟩ (by decide) (by decide)
  · refine Goes.via (B := T7.setTop (mkF m 63 #[.val (.long p1), .second, .val (.long p2), .second, .val (.long p3), .second, .val (.int p4), .val (.int p5), .val (.int p6), .val (.ref r1), .val (.ref r2), .val (.int (own_ta p5)), .val (.int (own_tr p5)), .val (.int (own_ed p5)), .val (.ref b6), .unset] [])) (fun t k => XS.ifNo X7.here hx rfl (hb hby at_60) rfl ((if0 _ _).trans (feq c60_8).1) k) ?_
    refine Goes.via (B := T7.setTop (mkF m 65 #[.val (.long p1), .second, .val (.long p2), .second, .val (.long p3), .second, .val (.int p4), .val (.int p5), .val (.int p6), .val (.ref r1), .val (.ref r2), .val (.int (own_ta p5)), .val (.int (own_tr p5)), .val (.int (own_ed p5)), .val (.ref b6), .unset] [(.ref b6)])) (fun t k => XS.aload X7.here hx rfl (hb hby at_63) rfl rfl k) ?_
    refine Goes.via (B := T7.setTop (mkF m 66 #[.val (.long p1), .second, .val (.long p2), .second, .val (.long p3), .second, .val (.int p4), .val (.int p5), .val (.int p6), .val (.ref r1), .val (.ref r2), .val (.int (own_ta p5)), .val (.int (own_tr p5)), .val (.int (own_ed p5)), .val (.ref b6), .unset] [(.long p2), (.ref b6)])) (fun t k => XS.lloadN X7.here hx rfl (hb hby at_65) rfl k) ?_
    refine Goes.via (B := T7.setTop (mkF m 68 #[.val (.long p1), .second, .val (.long p2), .second, .val (.long p3), .second, .val (.int p4), .val (.int p5), .val (.int p6), .val (.ref r1), .val (.ref r2), .val (.int (own_ta p5)), .val (.int (own_tr p5)), .val (.int (own_ed p5)), .val (.ref b6), .unset] [(.ref r1), (.long p2), (.ref b6)])) (fun t k => XS.aload X7.here hx rfl (hb hby at_66) rfl rfl k) ?_
    obtain ⟨cq17, kq17, qa17, qb17, qc17⟩ := isOf hZ hq7 A6
    obtain ⟨_, _, ⟨T17, L17, kk17, nn17⟩, -, X17, ⟨Lc17, hQ17, l17, y17, z17⟩, st17⟩ := X7.virtualBack hx (y := (⟨"com/example/highwater/highwater/sweep/QueueLayout$RunReader", "begin", "(J[B)V"⟩ : MethodName)) (z := (⟨"com/example/highwater/highwater/sweep/QueueLayout$RunReader", "begin", "(J[B)V"⟩ : MethodName)) hown (mvT hZ (hw _ (List.mem_of_getElem? (i := 20) rfl))) (mvT hZ (hw _ (List.mem_of_getElem? (i := 21) rfl))) (notFace_of_selects (args := #[]) (mvT hZ (hw _ (List.mem_of_getElem? (i := 23) rfl)))) (mvT hZ (hw _ (List.mem_of_getElem? (i := 23) rfl))) (mvT hZ (hw _ (List.mem_of_getElem? (i := 22) rfl))) (by decide) (backOf (W := 0) (rm10 l Z a0 hw [] b6 p2 r1 .null (0 : Int64) (0 : Int32) (0 : Int32) (0 : Int32) (0 : Int32) (0 : Int32) (0 : Int32) (0 : Int32) (0 : Int32) (0 : Int32) h6 n0 Z6 ⟨A6, Fb6_run_6, Fb6_start_6, Fb6_next_6, Fb6_tableAt_6, Fb6_tableLength_6, Fb6_rowAt_6, Fb6_rowLength_6, Fb6_columnAt_6, Fb6_columnLength_6, Fb6_deletion_6, Fb6_namesRow_6⟩ g_b6) hZ (hw _ (List.mem_of_getElem? (i := 24) rfl)) (hw _ (List.mem_of_getElem? (i := 13) rfl)) (by decide) (by decide)) qa17 qc17 (g := (mkF m 68 #[.val (.long p1), .second, .val (.long p2), .second, .val (.long p3), .second, .val (.int p4), .val (.int p5), .val (.int p6), .val (.ref r1), .val (.ref r2), .val (.int (own_ta p5)), .val (.int (own_tr p5)), .val (.int (own_ed p5)), .val (.ref b6), .unset] [(.ref r1), (.long p2), (.ref b6)])) rfl (by rw [hml]; rfl) (Steps.refl _) (argsL := [(.long p2), (.ref r1)]) (rest := []) (lenOf pd__J_B_V rfl) rfl (by show 2 * 0 + _ ≤ _; exact Nat.le_of_eq rfl) (hb hby at_68) (fun _ _ => ⟨rfl, hq7, (by decide : 3 + 0 ≤ _), (by decide : 25 + 0 ≤ _)⟩)
    dsimp only [Pt.U, Pt.locs, Pt.cells, Pt.slots] at X17 l17 y17 z17 st17 hQ17
    subst l17 y17 z17
    obtain ⟨rfl, Nq17, Kq17, Rq17⟩ := hQ17
    have N17 := Fr.app N7 Nq17
    have hk17 := Nat.le_trans hk6 Kq17.1
    have Vr1_17 := Vr1_6.keep Kq17 (ninS ne_r1_b6 nin0)
    have Vr2_17 := Vr2_6.keep Kq17 (ninS ne_r2_b6 nin0)
    have Eb6_17 := A6.keep Kq17
    obtain ⟨Ab6_17, Fb6_run_17, Fb6_start_17, Fb6_next_17, Fb6_tableAt_17, Fb6_tableLength_17, Fb6_rowAt_17, Fb6_rowLength_17, Fb6_columnAt_17, Fb6_columnLength_17, Fb6_deletion_17, Fb6_namesRow_17⟩ := Rq17
    have Z17 : n0 ≤ T17.heap.size := Nat.le_trans Z6 Kq17.1
    have eq17 : T17.heap = T17.heap := rfl
    refine Goes.via (B := T17.setTop (mkF m 71 #[.val (.long p1), .second, .val (.long p2), .second, .val (.long p3), .second, .val (.int p4), .val (.int p5), .val (.int p6), .val (.ref r1), .val (.ref r2), .val (.int (own_ta p5)), .val (.int (own_tr p5)), .val (.int (own_ed p5)), .val (.ref b6), .unset] [])) (fun t k => st17.trans k) ?_
    refine Goes.via (B := T17.setTop (mkF m 73 #[.val (.long p1), .second, .val (.long p2), .second, .val (.long p3), .second, .val (.int p4), .val (.int p5), .val (.int p6), .val (.ref r1), .val (.ref r2), .val (.int (own_ta p5)), .val (.int (own_tr p5)), .val (.int (own_ed p5)), .val (.ref b6), .unset] [(.ref b6)])) (fun t k => XS.aload X17.here hx rfl (hb hby at_71) rfl rfl k) ?_
    obtain ⟨cq18, kq18, qa18, qb18, qc18⟩ := isOf hZ eq17 Ab6_17
    obtain ⟨_, _, ⟨T18, L18, kk18, nn18⟩, -, X18, hB18, gr18, ⟨Lc18, hQ18, l18, y18, z18⟩, st18⟩ := X17.virtualBackS hx (y := (⟨"com/example/highwater/highwater/sweep/QueueLayout$RunReader", "next", "()Z"⟩ : MethodName)) (z := (⟨"com/example/highwater/highwater/sweep/QueueLayout$RunReader", "next", "()Z"⟩ : MethodName)) hown (mvT hZ (hw _ (List.mem_of_getElem? (i := 33) rfl))) (mvT hZ (hw _ (List.mem_of_getElem? (i := 34) rfl))) (notFace_of_selects (args := #[]) (mvT hZ (hw _ (List.mem_of_getElem? (i := 36) rfl)))) (mvT hZ (hw _ (List.mem_of_getElem? (i := 36) rfl))) (mvT hZ (hw _ (List.mem_of_getElem? (i := 35) rfl))) (by decide) (backOfS (W := 0) (rm7 l Z a0 hw [] b6 r1 kq1 vs1 p2 (-1 : Int32) (0 : Int32) (0 : Int32) (0 : Int32) (0 : Int32) (0 : Int32) (0 : Int32) (0 : Int32) (own_kd p4) (own_ta p4) (own_tr p4) (own_tc p4) T17.heap n0 Z17 ⟨Ab6_17, Fb6_run_17, Fb6_start_17, Fb6_next_17, Fb6_tableAt_17, Fb6_tableLength_17, Fb6_rowAt_17, Fb6_rowLength_17, Fb6_columnAt_17, Fb6_columnLength_17, Fb6_deletion_17, Fb6_namesRow_17⟩ Vr1_17 ne_r1_b6 g_b6 (own_kd01 p4) hok1 (own_abcOf p4)) hZ (hw _ (List.mem_of_getElem? (i := 37) rfl)) (hw _ (List.mem_of_getElem? (i := 13) rfl)) (by decide) (by decide)) qa18 qc18 (g := (mkF m 73 #[.val (.long p1), .second, .val (.long p2), .second, .val (.long p3), .second, .val (.int p4), .val (.int p5), .val (.int p6), .val (.ref r1), .val (.ref r2), .val (.int (own_ta p5)), .val (.int (own_tr p5)), .val (.int (own_ed p5)), .val (.ref b6), .unset] [(.ref b6)])) rfl (by rw [hml]; rfl) (Steps.refl _) (argsL := []) (rest := []) (lenOf pd___Z rfl) rfl (by show 2 * 0 + _ ≤ _; exact Nat.le_of_eq rfl) (hb hby at_73) (fun _ _ => ⟨rfl, eq17, (by decide : 3 + 6 ≤ _), (by decide : 25 + 444 ≤ _)⟩)
    dsimp only [Pt.U, Pt.locs, Pt.cells, Pt.slots] at X18 l18 y18 z18 st18 hQ18 hB18 gr18
    subst l18 y18 z18
    obtain ⟨X18, hS18, hZ, hown⟩ := rebS (s := s) hS0 (show _ ≤ T17.heap.size by rw [eq17]; exact hk17) X18 hB18 gr18 hZ hown
    obtain ⟨rfl, Nq18, Kq18, Rq18⟩ := hQ18
    have N18 := Fr.app N17 Nq18
    have Vr1_18 := Vr1_17.keep Kq18 (ninS ne_r1_b6 nin0)
    have Vr2_18 := Vr2_17.keep Kq18 (ninS ne_r2_b6 nin0)
    have Eb6_18 := Ab6_17.keep Kq18
    obtain ⟨Ab6_18, Fb6_run_18, Fb6_start_18, Fb6_next_18, Fb6_tableAt_18, Fb6_tableLength_18, Fb6_rowAt_18, Fb6_rowLength_18, Fb6_columnAt_18, Fb6_columnLength_18, Fb6_deletion_18, Fb6_namesRow_18⟩ := Rq18
    have Z18 : n0 ≤ T18.heap.size := Nat.le_trans Z17 Kq18.1
    have eq18 : T18.heap = T18.heap := rfl
    have hk18 : T18.heap.size ≤ T18.heap.size := Nat.le_refl _
    refine Goes.via (B := T18.setTop (mkF m 76 #[.val (.long p1), .second, .val (.long p2), .second, .val (.long p3), .second, .val (.int p4), .val (.int p5), .val (.int p6), .val (.ref r1), .val (.ref r2), .val (.int (own_ta p5)), .val (.int (own_tr p5)), .val (.int (own_ed p5)), .val (.ref b6), .unset] [(.int (1 : Int32))])) (fun t k => st18.trans k) ?_
    refine Goes.via (B := T18.setTop (mkF m 77 #[.val (.long p1), .second, .val (.long p2), .second, .val (.long p3), .second, .val (.int p4), .val (.int p5), .val (.int p6), .val (.ref r1), .val (.ref r2), .val (.int (own_ta p5)), .val (.int (own_tr p5)), .val (.int (own_ed p5)), .val (.ref b6), .unset] [])) (fun t k => XS.pop X18.here hx rfl (hb hby at_76) rfl rfl k) ?_
    refine Goes.via (B := T18.setTop (mkF m 79 #[.val (.long p1), .second, .val (.long p2), .second, .val (.long p3), .second, .val (.int p4), .val (.int p5), .val (.int p6), .val (.ref r1), .val (.ref r2), .val (.int (own_ta p5)), .val (.int (own_tr p5)), .val (.int (own_ed p5)), .val (.ref b6), .unset] [(.ref b6)])) (fun t k => XS.aload X18.here hx rfl (hb hby at_77) rfl rfl k) ?_
    refine Goes.via (B := T18.setTop (mkF m 80 #[.val (.long p1), .second, .val (.long p2), .second, .val (.long p3), .second, .val (.int p4), .val (.int p5), .val (.int p6), .val (.ref r1), .val (.ref r2), .val (.int (own_ta p5)), .val (.int (own_tr p5)), .val (.int (own_ed p5)), .val (.ref b6), .unset] [(.long p1), (.ref b6)])) (fun t k => XS.lloadN X18.here hx rfl (hb hby at_79) rfl k) ?_
    refine Goes.via (B := T18.setTop (mkF m 82 #[.val (.long p1), .second, .val (.long p2), .second, .val (.long p3), .second, .val (.int p4), .val (.int p5), .val (.int p6), .val (.ref r1), .val (.ref r2), .val (.int (own_ta p5)), .val (.int (own_tr p5)), .val (.int (own_ed p5)), .val (.ref b6), .unset] [(.ref r2), (.long p1), (.ref b6)])) (fun t k => XS.aload X18.here hx rfl (hb hby at_80) rfl rfl k) ?_
    obtain ⟨cq19, kq19, qa19, qb19, qc19⟩ := isOf hZ eq18 Ab6_18
    obtain ⟨_, _, ⟨T19, L19, kk19, nn19⟩, -, X19, ⟨Lc19, hQ19, l19, y19, z19⟩, st19⟩ := X18.virtualBack hx (y := (⟨"com/example/highwater/highwater/sweep/QueueLayout$RunReader", "begin", "(J[B)V"⟩ : MethodName)) (z := (⟨"com/example/highwater/highwater/sweep/QueueLayout$RunReader", "begin", "(J[B)V"⟩ : MethodName)) hown (mvT hZ (hw _ (List.mem_of_getElem? (i := 20) rfl))) (mvT hZ (hw _ (List.mem_of_getElem? (i := 21) rfl))) (notFace_of_selects (args := #[]) (mvT hZ (hw _ (List.mem_of_getElem? (i := 23) rfl)))) (mvT hZ (hw _ (List.mem_of_getElem? (i := 23) rfl))) (mvT hZ (hw _ (List.mem_of_getElem? (i := 22) rfl))) (by decide) (backOf (W := 0) (rm10 l Z a0 hw [] b6 p1 r2 (.ref r1) p2 (own_nx (own_nx (own_nx (1 : Int32) (own_ta p4)) (own_tr p4)) (own_tc p4)) ((own_nx (1 : Int32) (own_ta p4)) - (own_ta p4)) (own_ta p4) ((own_nx (own_nx (1 : Int32) (own_ta p4)) (own_tr p4)) - (own_tr p4)) (own_tr p4) ((own_nx (own_nx (own_nx (1 : Int32) (own_ta p4)) (own_tr p4)) (own_tc p4)) - (own_tc p4)) (own_tc p4) (own_dl (own_kd p4)) (1 : Int32) T18.heap n0 Z18 ⟨Ab6_18, Fb6_run_18, Fb6_start_18, Fb6_next_18, Fb6_tableAt_18, Fb6_tableLength_18, Fb6_rowAt_18, Fb6_rowLength_18, Fb6_columnAt_18, Fb6_columnLength_18, Fb6_deletion_18, Fb6_namesRow_18⟩ g_b6) hZ (hw _ (List.mem_of_getElem? (i := 24) rfl)) (hw _ (List.mem_of_getElem? (i := 13) rfl)) (by decide) (by decide)) qa19 qc19 (g := (mkF m 82 #[.val (.long p1), .second, .val (.long p2), .second, .val (.long p3), .second, .val (.int p4), .val (.int p5), .val (.int p6), .val (.ref r1), .val (.ref r2), .val (.int (own_ta p5)), .val (.int (own_tr p5)), .val (.int (own_ed p5)), .val (.ref b6), .unset] [(.ref r2), (.long p1), (.ref b6)])) rfl (by rw [hml]; rfl) (Steps.refl _) (argsL := [(.long p1), (.ref r2)]) (rest := []) (lenOf pd__J_B_V rfl) rfl (by show 2 * 0 + _ ≤ _; exact Nat.le_of_eq rfl) (hb hby at_82) (fun _ _ => ⟨rfl, eq18, (by decide : 9 + 0 ≤ _), (by decide : 469 + 0 ≤ _)⟩)
    dsimp only [Pt.U, Pt.locs, Pt.cells, Pt.slots] at X19 l19 y19 z19 st19 hQ19
    subst l19 y19 z19
    obtain ⟨rfl, Nq19, Kq19, Rq19⟩ := hQ19
    have N19 := Fr.app N18 Nq19
    have hk19 := Nat.le_trans hk18 Kq19.1
    have Vr1_19 := Vr1_18.keep Kq19 (ninS ne_r1_b6 nin0)
    have Vr2_19 := Vr2_18.keep Kq19 (ninS ne_r2_b6 nin0)
    have Eb6_19 := Ab6_18.keep Kq19
    obtain ⟨Ab6_19, Fb6_run_19, Fb6_start_19, Fb6_next_19, Fb6_tableAt_19, Fb6_tableLength_19, Fb6_rowAt_19, Fb6_rowLength_19, Fb6_columnAt_19, Fb6_columnLength_19, Fb6_deletion_19, Fb6_namesRow_19⟩ := Rq19
    have Z19 : n0 ≤ T19.heap.size := Nat.le_trans Z18 Kq19.1
    have eq19 : T19.heap = T19.heap := rfl
    refine Goes.via (B := T19.setTop (mkF m 85 #[.val (.long p1), .second, .val (.long p2), .second, .val (.long p3), .second, .val (.int p4), .val (.int p5), .val (.int p6), .val (.ref r1), .val (.ref r2), .val (.int (own_ta p5)), .val (.int (own_tr p5)), .val (.int (own_ed p5)), .val (.ref b6), .unset] [])) (fun t k => st19.trans k) ?_
    refine Goes.via (B := T19.setTop (mkF m 87 #[.val (.long p1), .second, .val (.long p2), .second, .val (.long p3), .second, .val (.int p4), .val (.int p5), .val (.int p6), .val (.ref r1), .val (.ref r2), .val (.int (own_ta p5)), .val (.int (own_tr p5)), .val (.int (own_ed p5)), .val (.ref b6), .unset] [(.ref b6)])) (fun t k => XS.aload X19.here hx rfl (hb hby at_85) rfl rfl k) ?_
    obtain ⟨cq20, kq20, qa20, qb20, qc20⟩ := isOf hZ eq19 Ab6_19
    obtain ⟨_, _, ⟨T20, L20, kk20, nn20⟩, -, X20, ⟨Lc20, hQ20, l20, y20, z20⟩, st20⟩ := X19.virtualBack hx (y := (⟨"com/example/highwater/highwater/sweep/QueueLayout$RunReader", "run", "()[B"⟩ : MethodName)) (z := (⟨"com/example/highwater/highwater/sweep/QueueLayout$RunReader", "run", "()[B"⟩ : MethodName)) hown (mvT hZ (hw _ (List.mem_of_getElem? (i := 83) rfl))) (mvT hZ (hw _ (List.mem_of_getElem? (i := 84) rfl))) (notFace_of_selects (args := #[]) (mvT hZ (hw _ (List.mem_of_getElem? (i := 86) rfl)))) (mvT hZ (hw _ (List.mem_of_getElem? (i := 86) rfl))) (mvT hZ (hw _ (List.mem_of_getElem? (i := 85) rfl))) (by decide) (backOf (W := 0) (rm11 l Z a0 hw [] b6 r2 T19.heap n0 Z19 Fb6_run_19) hZ (hw _ (List.mem_of_getElem? (i := 87) rfl)) (hw _ (List.mem_of_getElem? (i := 13) rfl)) (by decide) (by decide)) qa20 qc20 (g := (mkF m 87 #[.val (.long p1), .second, .val (.long p2), .second, .val (.long p3), .second, .val (.int p4), .val (.int p5), .val (.int p6), .val (.ref r1), .val (.ref r2), .val (.int (own_ta p5)), .val (.int (own_tr p5)), .val (.int (own_ed p5)), .val (.ref b6), .unset] [(.ref b6)])) rfl (by rw [hml]; rfl) (Steps.refl _) (argsL := []) (rest := []) (lenOf pd____B rfl) rfl (by show 2 * 0 + _ ≤ _; exact Nat.le_of_eq rfl) (hb hby at_87) (fun _ _ => ⟨rfl, eq19, (by decide : 9 + 0 ≤ _), (by decide : 469 + 0 ≤ _)⟩)
    dsimp only [Pt.U, Pt.locs, Pt.cells, Pt.slots] at X20 l20 y20 z20 st20 hQ20
    subst l20 y20 z20
    obtain ⟨rfl, Nq20, hq20⟩ := hQ20
    have N20 := Fr.app N19 Nq20
    refine Goes.via (B := T20.setTop (mkF m 90 #[.val (.long p1), .second, .val (.long p2), .second, .val (.long p3), .second, .val (.int p4), .val (.int p5), .val (.int p6), .val (.ref r1), .val (.ref r2), .val (.int (own_ta p5)), .val (.int (own_tr p5)), .val (.int (own_ed p5)), .val (.ref b6), .unset] [(.ref r2)])) (fun t k => st20.trans k) ?_
    refine Goes.via (B := T20.setTop (mkF m 92 #[.val (.long p1), .second, .val (.long p2), .second, .val (.long p3), .second, .val (.int p4), .val (.int p5), .val (.int p6), .val (.ref r1), .val (.ref r2), .val (.int (own_ta p5)), .val (.int (own_tr p5)), .val (.int (own_ed p5)), .val (.ref b6), .unset] [(.ref r2), (.ref r2)])) (fun t k => XS.aload X20.here hx rfl (hb hby at_90) rfl rfl k) ?_
    refine Goes.via (B := T20.setTop (mkF m 95 #[.val (.long p1), .second, .val (.long p2), .second, .val (.long p3), .second, .val (.int p4), .val (.int p5), .val (.int p6), .val (.ref r1), .val (.ref r2), .val (.int (own_ta p5)), .val (.int (own_tr p5)), .val (.int (own_ed p5)), .val (.ref b6), .unset] [])) (fun t k => Jvm.RoadKit.acmp X20 hx rfl (x := (.ref r2)) (y := (.ref r2)) rfl rfl (pc0 := 92) (pc' := 95) rfl (hb hby at_92) rfl (decide_eq_true rfl) (by decide) (by decide) k) ?_
    refine Goes.via (B := T20.setTop (mkF m 96 #[.val (.long p1), .second, .val (.long p2), .second, .val (.long p3), .second, .val (.int p4), .val (.int p5), .val (.int p6), .val (.ref r1), .val (.ref r2), .val (.int (own_ta p5)), .val (.int (own_tr p5)), .val (.int (own_ed p5)), .val (.ref b6), .unset] [(.int (1 : Int32))])) (fun t k => XS.iconst X20.here hx rfl (hb hby at_95) k) ?_
    refine Goes.via (B := T20.setTop (mkF m 100 #[.val (.long p1), .second, .val (.long p2), .second, .val (.long p3), .second, .val (.int p4), .val (.int p5), .val (.int p6), .val (.ref r1), .val (.ref r2), .val (.int (own_ta p5)), .val (.int (own_tr p5)), .val (.int (own_ed p5)), .val (.ref b6), .unset] [(.int (1 : Int32))])) (fun t k => XS.goto X20.here hx rfl (pc0 := 96) (pc' := 100) rfl (hb hby at_96) (by decide) (by decide) k) ?_
    refine Goes.via (B := T20.setTop (mkF m 102 #[.val (.long p1), .second, .val (.long p2), .second, .val (.long p3), .second, .val (.int p4), .val (.int p5), .val (.int p6), .val (.ref r1), .val (.ref r2), .val (.int (own_ta p5)), .val (.int (own_tr p5)), .val (.int (own_ed p5)), .val (.ref b6), .val (.int (1 : Int32))] [])) (fun t k => XS.istore X20.here hx rfl (hb hby at_100) rfl (l' := #[.val (.long p1), .second, .val (.long p2), .second, .val (.long p3), .second, .val (.int p4), .val (.int p5), .val (.int p6), .val (.ref r1), .val (.ref r2), .val (.int (own_ta p5)), .val (.int (own_tr p5)), .val (.int (own_ed p5)), .val (.ref b6), .val (.int (1 : Int32))]) rfl k) ?_
    refine Goes.via (B := T20.setTop (mkF m 104 #[.val (.long p1), .second, .val (.long p2), .second, .val (.long p3), .second, .val (.int p4), .val (.int p5), .val (.int p6), .val (.ref r1), .val (.ref r2), .val (.int (own_ta p5)), .val (.int (own_tr p5)), .val (.int (own_ed p5)), .val (.ref b6), .val (.int (1 : Int32))] [(.int (1 : Int32))])) (fun t k => XS.iload X20.here hx rfl (hb hby at_102) rfl k) ?_
    refine Goes.via (B := T20.setTop (mkF m 107 #[.val (.long p1), .second, .val (.long p2), .second, .val (.long p3), .second, .val (.int p4), .val (.int p5), .val (.int p6), .val (.ref r1), .val (.ref r2), .val (.int (own_ta p5)), .val (.int (own_tr p5)), .val (.int (own_ed p5)), .val (.ref b6), .val (.int (1 : Int32))] [])) (fun t k => XS.ifNo X20.here hx rfl (hb hby at_104) rfl ((if0 _ _).trans (feq (by decide : ¬ (1 : Int32) = (0 : Int32))).1) k) ?_
    refine Goes.via (B := T20.setTop (mkF m 109 #[.val (.long p1), .second, .val (.long p2), .second, .val (.long p3), .second, .val (.int p4), .val (.int p5), .val (.int p6), .val (.ref r1), .val (.ref r2), .val (.int (own_ta p5)), .val (.int (own_tr p5)), .val (.int (own_ed p5)), .val (.ref b6), .val (.int (1 : Int32))] [(.ref b6)])) (fun t k => XS.aload X20.here hx rfl (hb hby at_107) rfl rfl k) ?_
    obtain ⟨cq21, kq21, qa21, qb21, qc21⟩ := isOf hZ hq20 Ab6_19
    obtain ⟨_, _, ⟨T21, L21, kk21, nn21⟩, -, X21, ⟨Lc21, hQ21, l21, y21, z21⟩, st21⟩ := X20.virtualBack hx (y := (⟨"com/example/highwater/highwater/sweep/QueueLayout$RunReader", "tableAt", "()I"⟩ : MethodName)) (z := (⟨"com/example/highwater/highwater/sweep/QueueLayout$RunReader", "tableAt", "()I"⟩ : MethodName)) hown (mvT hZ (hw _ (List.mem_of_getElem? (i := 88) rfl))) (mvT hZ (hw _ (List.mem_of_getElem? (i := 89) rfl))) (notFace_of_selects (args := #[]) (mvT hZ (hw _ (List.mem_of_getElem? (i := 91) rfl)))) (mvT hZ (hw _ (List.mem_of_getElem? (i := 91) rfl))) (mvT hZ (hw _ (List.mem_of_getElem? (i := 90) rfl))) (by decide) (backOf (W := 0) (rm12 l Z a0 hw [] b6 (-1 : Int32) T19.heap n0 Z19 Fb6_tableAt_19) hZ (hw _ (List.mem_of_getElem? (i := 92) rfl)) (hw _ (List.mem_of_getElem? (i := 13) rfl)) (by decide) (by decide)) qa21 qc21 (g := (mkF m 109 #[.val (.long p1), .second, .val (.long p2), .second, .val (.long p3), .second, .val (.int p4), .val (.int p5), .val (.int p6), .val (.ref r1), .val (.ref r2), .val (.int (own_ta p5)), .val (.int (own_tr p5)), .val (.int (own_ed p5)), .val (.ref b6), .val (.int (1 : Int32))] [(.ref b6)])) rfl (by rw [hml]; rfl) (Steps.refl _) (argsL := []) (rest := []) (lenOf pd___I rfl) rfl (by show 2 * 0 + _ ≤ _; exact Nat.le_of_eq rfl) (hb hby at_109) (fun _ _ => ⟨rfl, hq20, (by decide : 9 + 0 ≤ _), (by decide : 469 + 0 ≤ _)⟩)
    dsimp only [Pt.U, Pt.locs, Pt.cells, Pt.slots] at X21 l21 y21 z21 st21 hQ21
    subst l21 y21 z21
    obtain ⟨rfl, Nq21, hq21⟩ := hQ21
    have N21 := Fr.app N20 Nq21
    refine Goes.via (B := T21.setTop (mkF m 112 #[.val (.long p1), .second, .val (.long p2), .second, .val (.long p3), .second, .val (.int p4), .val (.int p5), .val (.int p6), .val (.ref r1), .val (.ref r2), .val (.int (own_ta p5)), .val (.int (own_tr p5)), .val (.int (own_ed p5)), .val (.ref b6), .val (.int (1 : Int32))] [(.int (-1 : Int32))])) (fun t k => st21.trans k) ?_
    refine Goes.via (B := T21.setTop (mkF m 113 #[.val (.long p1), .second, .val (.long p2), .second, .val (.long p3), .second, .val (.int p4), .val (.int p5), .val (.int p6), .val (.ref r1), .val (.ref r2), .val (.int (own_ta p5)), .val (.int (own_tr p5)), .val (.int (own_ed p5)), .val (.ref b6), .val (.int (1 : Int32))] [(.int (-1 : Int32)), (.int (-1 : Int32))])) (fun t k => XS.iconst X21.here hx rfl (hb hby at_112) k) ?_
    refine Goes.via (B := T21.setTop (mkF m 116 #[.val (.long p1), .second, .val (.long p2), .second, .val (.long p3), .second, .val (.int p4), .val (.int p5), .val (.int p6), .val (.ref r1), .val (.ref r2), .val (.int (own_ta p5)), .val (.int (own_tr p5)), .val (.int (own_ed p5)), .val (.ref b6), .val (.int (1 : Int32))] [])) (fun t k => XS.icmpNo X21.here hx rfl (hb hby at_113) rfl (teq (by decide : (-1 : Int32) = (-1 : Int32))).2 k) ?_
    refine Goes.via (B := T21.setTop (mkF m 117 #[.val (.long p1), .second, .val (.long p2), .second, .val (.long p3), .second, .val (.int p4), .val (.int p5), .val (.int p6), .val (.ref r1), .val (.ref r2), .val (.int (own_ta p5)), .val (.int (own_tr p5)), .val (.int (own_ed p5)), .val (.ref b6), .val (.int (1 : Int32))] [(.int (1 : Int32))])) (fun t k => XS.iconst X21.here hx rfl (hb hby at_116) k) ?_
    refine Goes.via (B := T21.setTop (mkF m 121 #[.val (.long p1), .second, .val (.long p2), .second, .val (.long p3), .second, .val (.int p4), .val (.int p5), .val (.int p6), .val (.ref r1), .val (.ref r2), .val (.int (own_ta p5)), .val (.int (own_tr p5)), .val (.int (own_ed p5)), .val (.ref b6), .val (.int (1 : Int32))] [(.int (1 : Int32))])) (fun t k => XS.goto X21.here hx rfl (pc0 := 117) (pc' := 121) rfl (hb hby at_117) (by decide) (by decide) k) ?_
    refine Goes.via (B := T21.setTop (mkF m 123 #[.val (.long p1), .second, .val (.long p2), .second, .val (.long p3), .second, .val (.int p4), .val (.int p5), .val (.int p6), .val (.ref r1), .val (.ref r2), .val (.int (own_ta p5)), .val (.int (own_tr p5)), .val (.int (own_ed p5)), .val (.ref b6), .val (.int (1 : Int32))] [])) (fun t k => XS.istore X21.here hx rfl (hb hby at_121) rfl (l' := #[.val (.long p1), .second, .val (.long p2), .second, .val (.long p3), .second, .val (.int p4), .val (.int p5), .val (.int p6), .val (.ref r1), .val (.ref r2), .val (.int (own_ta p5)), .val (.int (own_tr p5)), .val (.int (own_ed p5)), .val (.ref b6), .val (.int (1 : Int32))]) rfl k) ?_
    refine Goes.via (B := T21.setTop (mkF m 125 #[.val (.long p1), .second, .val (.long p2), .second, .val (.long p3), .second, .val (.int p4), .val (.int p5), .val (.int p6), .val (.ref r1), .val (.ref r2), .val (.int (own_ta p5)), .val (.int (own_tr p5)), .val (.int (own_ed p5)), .val (.ref b6), .val (.int (1 : Int32))] [(.int (1 : Int32))])) (fun t k => XS.iload X21.here hx rfl (hb hby at_123) rfl k) ?_
    refine Goes.via (B := T21.setTop (mkF m 128 #[.val (.long p1), .second, .val (.long p2), .second, .val (.long p3), .second, .val (.int p4), .val (.int p5), .val (.int p6), .val (.ref r1), .val (.ref r2), .val (.int (own_ta p5)), .val (.int (own_tr p5)), .val (.int (own_ed p5)), .val (.ref b6), .val (.int (1 : Int32))] [])) (fun t k => XS.ifNo X21.here hx rfl (hb hby at_125) rfl ((if0 _ _).trans (feq (by decide : ¬ (1 : Int32) = (0 : Int32))).1) k) ?_
    refine Goes.via (B := T21.setTop (mkF m 130 #[.val (.long p1), .second, .val (.long p2), .second, .val (.long p3), .second, .val (.int p4), .val (.int p5), .val (.int p6), .val (.ref r1), .val (.ref r2), .val (.int (own_ta p5)), .val (.int (own_tr p5)), .val (.int (own_ed p5)), .val (.ref b6), .val (.int (1 : Int32))] [(.ref b6)])) (fun t k => XS.aload X21.here hx rfl (hb hby at_128) rfl rfl k) ?_
    obtain ⟨cq22, kq22, qa22, qb22, qc22⟩ := isOf hZ hq21 Ab6_19
    obtain ⟨_, _, ⟨T22, L22, kk22, nn22⟩, -, X22, hB22, gr22, ⟨Lc22, hQ22, l22, y22, z22⟩, st22⟩ := X21.virtualBackS hx (y := (⟨"com/example/highwater/highwater/sweep/QueueLayout$RunReader", "next", "()Z"⟩ : MethodName)) (z := (⟨"com/example/highwater/highwater/sweep/QueueLayout$RunReader", "next", "()Z"⟩ : MethodName)) hown (mvT hZ (hw _ (List.mem_of_getElem? (i := 33) rfl))) (mvT hZ (hw _ (List.mem_of_getElem? (i := 34) rfl))) (notFace_of_selects (args := #[]) (mvT hZ (hw _ (List.mem_of_getElem? (i := 36) rfl)))) (mvT hZ (hw _ (List.mem_of_getElem? (i := 36) rfl))) (mvT hZ (hw _ (List.mem_of_getElem? (i := 35) rfl))) (by decide) (backOfS (W := 0) (rm7 l Z a0 hw [] b6 r2 kq2 vs2 p1 (-1 : Int32) (own_ta p4) ((own_nx (own_nx (1 : Int32) (own_ta p4)) (own_tr p4)) - (own_tr p4)) (own_tr p4) ((own_nx (own_nx (own_nx (1 : Int32) (own_ta p4)) (own_tr p4)) (own_tc p4)) - (own_tc p4)) (own_tc p4) (own_dl (own_kd p4)) (1 : Int32) (own_kd p5) (own_ta p5) (own_tr p5) (own_tc p5) T19.heap n0 Z19 ⟨Ab6_19, Fb6_run_19, Fb6_start_19, Fb6_next_19, Fb6_tableAt_19, Fb6_tableLength_19, Fb6_rowAt_19, Fb6_rowLength_19, Fb6_columnAt_19, Fb6_columnLength_19, Fb6_deletion_19, Fb6_namesRow_19⟩ Vr2_19 ne_r2_b6 g_b6 (own_kd01 p5) hok2 (own_abcOf p5)) hZ (hw _ (List.mem_of_getElem? (i := 37) rfl)) (hw _ (List.mem_of_getElem? (i := 13) rfl)) (by decide) (by decide)) qa22 qc22 (g := (mkF m 130 #[.val (.long p1), .second, .val (.long p2), .second, .val (.long p3), .second, .val (.int p4), .val (.int p5), .val (.int p6), .val (.ref r1), .val (.ref r2), .val (.int (own_ta p5)), .val (.int (own_tr p5)), .val (.int (own_ed p5)), .val (.ref b6), .val (.int (1 : Int32))] [(.ref b6)])) rfl (by rw [hml]; rfl) (Steps.refl _) (argsL := []) (rest := []) (lenOf pd___Z rfl) rfl (by show 2 * 0 + _ ≤ _; exact Nat.le_of_eq rfl) (hb hby at_130) (fun _ _ => ⟨rfl, hq21, (by decide : 9 + 6 ≤ _), (by decide : 469 + 444 ≤ _)⟩)
    dsimp only [Pt.U, Pt.locs, Pt.cells, Pt.slots] at X22 l22 y22 z22 st22 hQ22 hB22 gr22
    subst l22 y22 z22
    obtain ⟨X22, hS22, hZ, hown⟩ := rebS (s := s) hS18 (show _ ≤ T21.heap.size by rw [hq21]; exact hk19) X22 hB22 gr22 hZ hown
    obtain ⟨rfl, Nq22, Kq22, Rq22⟩ := hQ22
    have N22 := Fr.app N21 Nq22
    have Vr1_22 := Vr1_19.keep Kq22 (ninS ne_r1_b6 nin0)
    have Vr2_22 := Vr2_19.keep Kq22 (ninS ne_r2_b6 nin0)
    have Eb6_22 := Ab6_19.keep Kq22
    obtain ⟨Ab6_22, Fb6_run_22, Fb6_start_22, Fb6_next_22, Fb6_tableAt_22, Fb6_tableLength_22, Fb6_rowAt_22, Fb6_rowLength_22, Fb6_columnAt_22, Fb6_columnLength_22, Fb6_deletion_22, Fb6_namesRow_22⟩ := Rq22
    have Z22 : n0 ≤ T22.heap.size := Nat.le_trans Z19 Kq22.1
    have eq22 : T22.heap = T22.heap := rfl
    have hk22 : T22.heap.size ≤ T22.heap.size := Nat.le_refl _
    refine Goes.via (B := T22.setTop (mkF m 133 #[.val (.long p1), .second, .val (.long p2), .second, .val (.long p3), .second, .val (.int p4), .val (.int p5), .val (.int p6), .val (.ref r1), .val (.ref r2), .val (.int (own_ta p5)), .val (.int (own_tr p5)), .val (.int (own_ed p5)), .val (.ref b6), .val (.int (1 : Int32))] [(.int (1 : Int32))])) (fun t k => st22.trans k) ?_
    refine Goes.via (B := T22.setTop (mkF m 136 #[.val (.long p1), .second, .val (.long p2), .second, .val (.long p3), .second, .val (.int p4), .val (.int p5), .val (.int p6), .val (.ref r1), .val (.ref r2), .val (.int (own_ta p5)), .val (.int (own_tr p5)), .val (.int (own_ed p5)), .val (.ref b6), .val (.int (1 : Int32))] [])) (fun t k => XS.ifNo X22.here hx rfl (hb hby at_133) rfl ((if0 _ _).trans (feq (by decide : ¬ (1 : Int32) = (0 : Int32))).1) k) ?_
    refine Goes.via (B := T22.setTop (mkF m 137 #[.val (.long p1), .second, .val (.long p2), .second, .val (.long p3), .second, .val (.int p4), .val (.int p5), .val (.int p6), .val (.ref r1), .val (.ref r2), .val (.int (own_ta p5)), .val (.int (own_tr p5)), .val (.int (own_ed p5)), .val (.ref b6), .val (.int (1 : Int32))] [(.int (1 : Int32))])) (fun t k => XS.iconst X22.here hx rfl (hb hby at_136) k) ?_
    refine Goes.via (B := T22.setTop (mkF m 141 #[.val (.long p1), .second, .val (.long p2), .second, .val (.long p3), .second, .val (.int p4), .val (.int p5), .val (.int p6), .val (.ref r1), .val (.ref r2), .val (.int (own_ta p5)), .val (.int (own_tr p5)), .val (.int (own_ed p5)), .val (.ref b6), .val (.int (1 : Int32))] [(.int (1 : Int32))])) (fun t k => XS.goto X22.here hx rfl (pc0 := 137) (pc' := 141) rfl (hb hby at_137) (by decide) (by decide) k) ?_
    refine Goes.via (B := T22.setTop (mkF m 143 #[.val (.long p1), .second, .val (.long p2), .second, .val (.long p3), .second, .val (.int p4), .val (.int p5), .val (.int p6), .val (.ref r1), .val (.ref r2), .val (.int (own_ta p5)), .val (.int (own_tr p5)), .val (.int (own_ed p5)), .val (.ref b6), .val (.int (1 : Int32))] [])) (fun t k => XS.istore X22.here hx rfl (hb hby at_141) rfl (l' := #[.val (.long p1), .second, .val (.long p2), .second, .val (.long p3), .second, .val (.int p4), .val (.int p5), .val (.int p6), .val (.ref r1), .val (.ref r2), .val (.int (own_ta p5)), .val (.int (own_tr p5)), .val (.int (own_ed p5)), .val (.ref b6), .val (.int (1 : Int32))]) rfl k) ?_
    refine Goes.via (B := T22.setTop (mkF m 145 #[.val (.long p1), .second, .val (.long p2), .second, .val (.long p3), .second, .val (.int p4), .val (.int p5), .val (.int p6), .val (.ref r1), .val (.ref r2), .val (.int (own_ta p5)), .val (.int (own_tr p5)), .val (.int (own_ed p5)), .val (.ref b6), .val (.int (1 : Int32))] [(.int (1 : Int32))])) (fun t k => XS.iload X22.here hx rfl (hb hby at_143) rfl k) ?_
    refine Goes.via (B := T22.setTop (mkF m 148 #[.val (.long p1), .second, .val (.long p2), .second, .val (.long p3), .second, .val (.int p4), .val (.int p5), .val (.int p6), .val (.ref r1), .val (.ref r2), .val (.int (own_ta p5)), .val (.int (own_tr p5)), .val (.int (own_ed p5)), .val (.ref b6), .val (.int (1 : Int32))] [])) (fun t k => XS.ifNo X22.here hx rfl (hb hby at_145) rfl ((if0 _ _).trans (feq (by decide : ¬ (1 : Int32) = (0 : Int32))).1) k) ?_
    refine Goes.via (B := T22.setTop (mkF m 150 #[.val (.long p1), .second, .val (.long p2), .second, .val (.long p3), .second, .val (.int p4), .val (.int p5), .val (.int p6), .val (.ref r1), .val (.ref r2), .val (.int (own_ta p5)), .val (.int (own_tr p5)), .val (.int (own_ed p5)), .val (.ref b6), .val (.int (1 : Int32))] [(.ref b6)])) (fun t k => XS.aload X22.here hx rfl (hb hby at_148) rfl rfl k) ?_
    obtain ⟨cq23, kq23, qa23, qb23, qc23⟩ := isOf hZ eq22 Ab6_22
    obtain ⟨_, _, ⟨T23, L23, kk23, nn23⟩, -, X23, ⟨Lc23, hQ23, l23, y23, z23⟩, st23⟩ := X22.virtualBack hx (y := (⟨"com/example/highwater/highwater/sweep/QueueLayout$RunReader", "rowAt", "()I"⟩ : MethodName)) (z := (⟨"com/example/highwater/highwater/sweep/QueueLayout$RunReader", "rowAt", "()I"⟩ : MethodName)) hown (mvT hZ (hw _ (List.mem_of_getElem? (i := 93) rfl))) (mvT hZ (hw _ (List.mem_of_getElem? (i := 94) rfl))) (notFace_of_selects (args := #[]) (mvT hZ (hw _ (List.mem_of_getElem? (i := 96) rfl)))) (mvT hZ (hw _ (List.mem_of_getElem? (i := 96) rfl))) (mvT hZ (hw _ (List.mem_of_getElem? (i := 95) rfl))) (by decide) (backOf (W := 0) (rm13 l Z a0 hw [] b6 ((own_nx (own_nx (1 : Int32) (own_ta p5)) (own_tr p5)) - (own_tr p5)) T22.heap n0 Z22 Fb6_rowAt_22) hZ (hw _ (List.mem_of_getElem? (i := 97) rfl)) (hw _ (List.mem_of_getElem? (i := 13) rfl)) (by decide) (by decide)) qa23 qc23 (g := (mkF m 150 #[.val (.long p1), .second, .val (.long p2), .second, .val (.long p3), .second, .val (.int p4), .val (.int p5), .val (.int p6), .val (.ref r1), .val (.ref r2), .val (.int (own_ta p5)), .val (.int (own_tr p5)), .val (.int (own_ed p5)), .val (.ref b6), .val (.int (1 : Int32))] [(.ref b6)])) rfl (by rw [hml]; rfl) (Steps.refl _) (argsL := []) (rest := []) (lenOf pd___I rfl) rfl (by show 2 * 0 + _ ≤ _; exact Nat.le_of_eq rfl) (hb hby at_150) (fun _ _ => ⟨rfl, eq22, (by decide : 15 + 0 ≤ _), (by decide : 913 + 0 ≤ _)⟩)
    dsimp only [Pt.U, Pt.locs, Pt.cells, Pt.slots] at X23 l23 y23 z23 st23 hQ23
    subst l23 y23 z23
    obtain ⟨rfl, Nq23, hq23⟩ := hQ23
    have N23 := Fr.app N22 Nq23
    refine Goes.via (B := T23.setTop (mkF m 153 #[.val (.long p1), .second, .val (.long p2), .second, .val (.long p3), .second, .val (.int p4), .val (.int p5), .val (.int p6), .val (.ref r1), .val (.ref r2), .val (.int (own_ta p5)), .val (.int (own_tr p5)), .val (.int (own_ed p5)), .val (.ref b6), .val (.int (1 : Int32))] [(.int ((own_nx (own_nx (1 : Int32) (own_ta p5)) (own_tr p5)) - (own_tr p5)))])) (fun t k => st23.trans k) ?_
    refine Goes.via (B := T23.setTop (mkF m 154 #[.val (.long p1), .second, .val (.long p2), .second, .val (.long p3), .second, .val (.int p4), .val (.int p5), .val (.int p6), .val (.ref r1), .val (.ref r2), .val (.int (own_ta p5)), .val (.int (own_tr p5)), .val (.int (own_ed p5)), .val (.ref b6), .val (.int (1 : Int32))] [(.int (3 : Int32)), (.int ((own_nx (own_nx (1 : Int32) (own_ta p5)) (own_tr p5)) - (own_tr p5)))])) (fun t k => XS.iconst X23.here hx rfl (hb hby at_153) k) ?_
    refine Goes.via (B := T23.setTop (mkF m 156 #[.val (.long p1), .second, .val (.long p2), .second, .val (.long p3), .second, .val (.int p4), .val (.int p5), .val (.int p6), .val (.ref r1), .val (.ref r2), .val (.int (own_ta p5)), .val (.int (own_tr p5)), .val (.int (own_ed p5)), .val (.ref b6), .val (.int (1 : Int32))] [(.int (own_ta p5)), (.int (3 : Int32)), (.int ((own_nx (own_nx (1 : Int32) (own_ta p5)) (own_tr p5)) - (own_tr p5)))])) (fun t k => XS.iload X23.here hx rfl (hb hby at_154) rfl k) ?_
    refine Goes.via (B := T23.setTop (mkF m 157 #[.val (.long p1), .second, .val (.long p2), .second, .val (.long p3), .second, .val (.int p4), .val (.int p5), .val (.int p6), .val (.ref r1), .val (.ref r2), .val (.int (own_ta p5)), .val (.int (own_tr p5)), .val (.int (own_ed p5)), .val (.ref b6), .val (.int (1 : Int32))] [(.int ((3 : Int32) + (own_ta p5))), (.int ((own_nx (own_nx (1 : Int32) (own_ta p5)) (own_tr p5)) - (own_tr p5)))])) (fun t k => XS.iadd X23.here hx rfl (hb hby at_156) rfl k) ?_
    refine Goes.via (B := T23.setTop (mkF m 160 #[.val (.long p1), .second, .val (.long p2), .second, .val (.long p3), .second, .val (.int p4), .val (.int p5), .val (.int p6), .val (.ref r1), .val (.ref r2), .val (.int (own_ta p5)), .val (.int (own_tr p5)), .val (.int (own_ed p5)), .val (.ref b6), .val (.int (1 : Int32))] [])) (fun t k => XS.icmpNo X23.here hx rfl (hb hby at_157) rfl (teq (own_row p5)).2 k) ?_
    refine Goes.via (B := T23.setTop (mkF m 161 #[.val (.long p1), .second, .val (.long p2), .second, .val (.long p3), .second, .val (.int p4), .val (.int p5), .val (.int p6), .val (.ref r1), .val (.ref r2), .val (.int (own_ta p5)), .val (.int (own_tr p5)), .val (.int (own_ed p5)), .val (.ref b6), .val (.int (1 : Int32))] [(.int (1 : Int32))])) (fun t k => XS.iconst X23.here hx rfl (hb hby at_160) k) ?_
    refine Goes.via (B := T23.setTop (mkF m 165 #[.val (.long p1), .second, .val (.long p2), .second, .val (.long p3), .second, .val (.int p4), .val (.int p5), .val (.int p6), .val (.ref r1), .val (.ref r2), .val (.int (own_ta p5)), .val (.int (own_tr p5)), .val (.int (own_ed p5)), .val (.ref b6), .val (.int (1 : Int32))] [(.int (1 : Int32))])) (fun t k => XS.goto X23.here hx rfl (pc0 := 161) (pc' := 165) rfl (hb hby at_161) (by decide) (by decide) k) ?_
    refine Goes.via (B := T23.setTop (mkF m 167 #[.val (.long p1), .second, .val (.long p2), .second, .val (.long p3), .second, .val (.int p4), .val (.int p5), .val (.int p6), .val (.ref r1), .val (.ref r2), .val (.int (own_ta p5)), .val (.int (own_tr p5)), .val (.int (own_ed p5)), .val (.ref b6), .val (.int (1 : Int32))] [])) (fun t k => XS.istore X23.here hx rfl (hb hby at_165) rfl (l' := #[.val (.long p1), .second, .val (.long p2), .second, .val (.long p3), .second, .val (.int p4), .val (.int p5), .val (.int p6), .val (.ref r1), .val (.ref r2), .val (.int (own_ta p5)), .val (.int (own_tr p5)), .val (.int (own_ed p5)), .val (.ref b6), .val (.int (1 : Int32))]) rfl k) ?_
    refine Goes.via (B := T23.setTop (mkF m 169 #[.val (.long p1), .second, .val (.long p2), .second, .val (.long p3), .second, .val (.int p4), .val (.int p5), .val (.int p6), .val (.ref r1), .val (.ref r2), .val (.int (own_ta p5)), .val (.int (own_tr p5)), .val (.int (own_ed p5)), .val (.ref b6), .val (.int (1 : Int32))] [(.int (1 : Int32))])) (fun t k => XS.iload X23.here hx rfl (hb hby at_167) rfl k) ?_
    refine Goes.via (B := T23.setTop (mkF m 172 #[.val (.long p1), .second, .val (.long p2), .second, .val (.long p3), .second, .val (.int p4), .val (.int p5), .val (.int p6), .val (.ref r1), .val (.ref r2), .val (.int (own_ta p5)), .val (.int (own_tr p5)), .val (.int (own_ed p5)), .val (.ref b6), .val (.int (1 : Int32))] [])) (fun t k => XS.ifNo X23.here hx rfl (hb hby at_169) rfl ((if0 _ _).trans (feq (by decide : ¬ (1 : Int32) = (0 : Int32))).1) k) ?_
    refine Goes.via (B := T23.setTop (mkF m 174 #[.val (.long p1), .second, .val (.long p2), .second, .val (.long p3), .second, .val (.int p4), .val (.int p5), .val (.int p6), .val (.ref r1), .val (.ref r2), .val (.int (own_ta p5)), .val (.int (own_tr p5)), .val (.int (own_ed p5)), .val (.ref b6), .val (.int (1 : Int32))] [(.ref b6)])) (fun t k => XS.aload X23.here hx rfl (hb hby at_172) rfl rfl k) ?_
    obtain ⟨cq24, kq24, qa24, qb24, qc24⟩ := isOf hZ hq23 Ab6_22
    obtain ⟨_, _, ⟨T24, L24, kk24, nn24⟩, -, X24, ⟨Lc24, hQ24, l24, y24, z24⟩, st24⟩ := X23.virtualBack hx (y := (⟨"com/example/highwater/highwater/sweep/QueueLayout$RunReader", "columnAt", "()I"⟩ : MethodName)) (z := (⟨"com/example/highwater/highwater/sweep/QueueLayout$RunReader", "columnAt", "()I"⟩ : MethodName)) hown (mvT hZ (hw _ (List.mem_of_getElem? (i := 98) rfl))) (mvT hZ (hw _ (List.mem_of_getElem? (i := 99) rfl))) (notFace_of_selects (args := #[]) (mvT hZ (hw _ (List.mem_of_getElem? (i := 101) rfl)))) (mvT hZ (hw _ (List.mem_of_getElem? (i := 101) rfl))) (mvT hZ (hw _ (List.mem_of_getElem? (i := 100) rfl))) (by decide) (backOf (W := 0) (rm14 l Z a0 hw [] b6 ((own_nx (own_nx (own_nx (1 : Int32) (own_ta p5)) (own_tr p5)) (own_tc p5)) - (own_tc p5)) T22.heap n0 Z22 Fb6_columnAt_22) hZ (hw _ (List.mem_of_getElem? (i := 102) rfl)) (hw _ (List.mem_of_getElem? (i := 13) rfl)) (by decide) (by decide)) qa24 qc24 (g := (mkF m 174 #[.val (.long p1), .second, .val (.long p2), .second, .val (.long p3), .second, .val (.int p4), .val (.int p5), .val (.int p6), .val (.ref r1), .val (.ref r2), .val (.int (own_ta p5)), .val (.int (own_tr p5)), .val (.int (own_ed p5)), .val (.ref b6), .val (.int (1 : Int32))] [(.ref b6)])) rfl (by rw [hml]; rfl) (Steps.refl _) (argsL := []) (rest := []) (lenOf pd___I rfl) rfl (by show 2 * 0 + _ ≤ _; exact Nat.le_of_eq rfl) (hb hby at_174) (fun _ _ => ⟨rfl, hq23, (by decide : 15 + 0 ≤ _), (by decide : 913 + 0 ≤ _)⟩)
    dsimp only [Pt.U, Pt.locs, Pt.cells, Pt.slots] at X24 l24 y24 z24 st24 hQ24
    subst l24 y24 z24
    obtain ⟨rfl, Nq24, hq24⟩ := hQ24
    have N24 := Fr.app N23 Nq24
    refine Goes.via (B := T24.setTop (mkF m 177 #[.val (.long p1), .second, .val (.long p2), .second, .val (.long p3), .second, .val (.int p4), .val (.int p5), .val (.int p6), .val (.ref r1), .val (.ref r2), .val (.int (own_ta p5)), .val (.int (own_tr p5)), .val (.int (own_ed p5)), .val (.ref b6), .val (.int (1 : Int32))] [(.int ((own_nx (own_nx (own_nx (1 : Int32) (own_ta p5)) (own_tr p5)) (own_tc p5)) - (own_tc p5)))])) (fun t k => st24.trans k) ?_
    refine Goes.via (B := T24.setTop (mkF m 178 #[.val (.long p1), .second, .val (.long p2), .second, .val (.long p3), .second, .val (.int p4), .val (.int p5), .val (.int p6), .val (.ref r1), .val (.ref r2), .val (.int (own_ta p5)), .val (.int (own_tr p5)), .val (.int (own_ed p5)), .val (.ref b6), .val (.int (1 : Int32))] [(.int (4 : Int32)), (.int ((own_nx (own_nx (own_nx (1 : Int32) (own_ta p5)) (own_tr p5)) (own_tc p5)) - (own_tc p5)))])) (fun t k => XS.iconst X24.here hx rfl (hb hby at_177) k) ?_
    refine Goes.via (B := T24.setTop (mkF m 180 #[.val (.long p1), .second, .val (.long p2), .second, .val (.long p3), .second, .val (.int p4), .val (.int p5), .val (.int p6), .val (.ref r1), .val (.ref r2), .val (.int (own_ta p5)), .val (.int (own_tr p5)), .val (.int (own_ed p5)), .val (.ref b6), .val (.int (1 : Int32))] [(.int (own_ta p5)), (.int (4 : Int32)), (.int ((own_nx (own_nx (own_nx (1 : Int32) (own_ta p5)) (own_tr p5)) (own_tc p5)) - (own_tc p5)))])) (fun t k => XS.iload X24.here hx rfl (hb hby at_178) rfl k) ?_
    refine Goes.via (B := T24.setTop (mkF m 181 #[.val (.long p1), .second, .val (.long p2), .second, .val (.long p3), .second, .val (.int p4), .val (.int p5), .val (.int p6), .val (.ref r1), .val (.ref r2), .val (.int (own_ta p5)), .val (.int (own_tr p5)), .val (.int (own_ed p5)), .val (.ref b6), .val (.int (1 : Int32))] [(.int ((4 : Int32) + (own_ta p5))), (.int ((own_nx (own_nx (own_nx (1 : Int32) (own_ta p5)) (own_tr p5)) (own_tc p5)) - (own_tc p5)))])) (fun t k => XS.iadd X24.here hx rfl (hb hby at_180) rfl k) ?_
    refine Goes.via (B := T24.setTop (mkF m 183 #[.val (.long p1), .second, .val (.long p2), .second, .val (.long p3), .second, .val (.int p4), .val (.int p5), .val (.int p6), .val (.ref r1), .val (.ref r2), .val (.int (own_ta p5)), .val (.int (own_tr p5)), .val (.int (own_ed p5)), .val (.ref b6), .val (.int (1 : Int32))] [(.int (own_tr p5)), (.int ((4 : Int32) + (own_ta p5))), (.int ((own_nx (own_nx (own_nx (1 : Int32) (own_ta p5)) (own_tr p5)) (own_tc p5)) - (own_tc p5)))])) (fun t k => XS.iload X24.here hx rfl (hb hby at_181) rfl k) ?_
    refine Goes.via (B := T24.setTop (mkF m 184 #[.val (.long p1), .second, .val (.long p2), .second, .val (.long p3), .second, .val (.int p4), .val (.int p5), .val (.int p6), .val (.ref r1), .val (.ref r2), .val (.int (own_ta p5)), .val (.int (own_tr p5)), .val (.int (own_ed p5)), .val (.ref b6), .val (.int (1 : Int32))] [(.int (((4 : Int32) + (own_ta p5)) + (own_tr p5))), (.int ((own_nx (own_nx (own_nx (1 : Int32) (own_ta p5)) (own_tr p5)) (own_tc p5)) - (own_tc p5)))])) (fun t k => XS.iadd X24.here hx rfl (hb hby at_183) rfl k) ?_
    refine Goes.via (B := T24.setTop (mkF m 187 #[.val (.long p1), .second, .val (.long p2), .second, .val (.long p3), .second, .val (.int p4), .val (.int p5), .val (.int p6), .val (.ref r1), .val (.ref r2), .val (.int (own_ta p5)), .val (.int (own_tr p5)), .val (.int (own_ed p5)), .val (.ref b6), .val (.int (1 : Int32))] [])) (fun t k => XS.icmpNo X24.here hx rfl (hb hby at_184) rfl (teq (own_col p5)).2 k) ?_
    refine Goes.via (B := T24.setTop (mkF m 188 #[.val (.long p1), .second, .val (.long p2), .second, .val (.long p3), .second, .val (.int p4), .val (.int p5), .val (.int p6), .val (.ref r1), .val (.ref r2), .val (.int (own_ta p5)), .val (.int (own_tr p5)), .val (.int (own_ed p5)), .val (.ref b6), .val (.int (1 : Int32))] [(.int (1 : Int32))])) (fun t k => XS.iconst X24.here hx rfl (hb hby at_187) k) ?_
    refine Goes.via (B := T24.setTop (mkF m 192 #[.val (.long p1), .second, .val (.long p2), .second, .val (.long p3), .second, .val (.int p4), .val (.int p5), .val (.int p6), .val (.ref r1), .val (.ref r2), .val (.int (own_ta p5)), .val (.int (own_tr p5)), .val (.int (own_ed p5)), .val (.ref b6), .val (.int (1 : Int32))] [(.int (1 : Int32))])) (fun t k => XS.goto X24.here hx rfl (pc0 := 188) (pc' := 192) rfl (hb hby at_188) (by decide) (by decide) k) ?_
    refine Goes.via (B := T24.setTop (mkF m 194 #[.val (.long p1), .second, .val (.long p2), .second, .val (.long p3), .second, .val (.int p4), .val (.int p5), .val (.int p6), .val (.ref r1), .val (.ref r2), .val (.int (own_ta p5)), .val (.int (own_tr p5)), .val (.int (own_ed p5)), .val (.ref b6), .val (.int (1 : Int32))] [])) (fun t k => XS.istore X24.here hx rfl (hb hby at_192) rfl (l' := #[.val (.long p1), .second, .val (.long p2), .second, .val (.long p3), .second, .val (.int p4), .val (.int p5), .val (.int p6), .val (.ref r1), .val (.ref r2), .val (.int (own_ta p5)), .val (.int (own_tr p5)), .val (.int (own_ed p5)), .val (.ref b6), .val (.int (1 : Int32))]) rfl k) ?_
    refine Goes.via (B := T24.setTop (mkF m 196 #[.val (.long p1), .second, .val (.long p2), .second, .val (.long p3), .second, .val (.int p4), .val (.int p5), .val (.int p6), .val (.ref r1), .val (.ref r2), .val (.int (own_ta p5)), .val (.int (own_tr p5)), .val (.int (own_ed p5)), .val (.ref b6), .val (.int (1 : Int32))] [(.int (1 : Int32))])) (fun t k => XS.iload X24.here hx rfl (hb hby at_194) rfl k) ?_
    refine Goes.via (B := T24.setTop (mkF m 199 #[.val (.long p1), .second, .val (.long p2), .second, .val (.long p3), .second, .val (.int p4), .val (.int p5), .val (.int p6), .val (.ref r1), .val (.ref r2), .val (.int (own_ta p5)), .val (.int (own_tr p5)), .val (.int (own_ed p5)), .val (.ref b6), .val (.int (1 : Int32))] [])) (fun t k => XS.ifNo X24.here hx rfl (hb hby at_196) rfl ((if0 _ _).trans (feq (by decide : ¬ (1 : Int32) = (0 : Int32))).1) k) ?_
    refine Goes.via (B := T24.setTop (mkF m 201 #[.val (.long p1), .second, .val (.long p2), .second, .val (.long p3), .second, .val (.int p4), .val (.int p5), .val (.int p6), .val (.ref r1), .val (.ref r2), .val (.int (own_ta p5)), .val (.int (own_tr p5)), .val (.int (own_ed p5)), .val (.ref b6), .val (.int (1 : Int32))] [(.ref b6)])) (fun t k => XS.aload X24.here hx rfl (hb hby at_199) rfl rfl k) ?_
    obtain ⟨cq25, kq25, qa25, qb25, qc25⟩ := isOf hZ hq24 Ab6_22
    obtain ⟨_, _, ⟨T25, L25, kk25, nn25⟩, -, X25, ⟨Lc25, hQ25, l25, y25, z25⟩, st25⟩ := X24.virtualBack hx (y := (⟨"com/example/highwater/highwater/sweep/QueueLayout$RunReader", "deletion", "()Z"⟩ : MethodName)) (z := (⟨"com/example/highwater/highwater/sweep/QueueLayout$RunReader", "deletion", "()Z"⟩ : MethodName)) hown (mvT hZ (hw _ (List.mem_of_getElem? (i := 103) rfl))) (mvT hZ (hw _ (List.mem_of_getElem? (i := 104) rfl))) (notFace_of_selects (args := #[]) (mvT hZ (hw _ (List.mem_of_getElem? (i := 106) rfl)))) (mvT hZ (hw _ (List.mem_of_getElem? (i := 106) rfl))) (mvT hZ (hw _ (List.mem_of_getElem? (i := 105) rfl))) (by decide) (backOf (W := 0) (rm15 l Z a0 hw [] b6 (own_dl (own_kd p5)) T22.heap n0 Z22 Fb6_deletion_22 (own_dl01 _)) hZ (hw _ (List.mem_of_getElem? (i := 107) rfl)) (hw _ (List.mem_of_getElem? (i := 13) rfl)) (by decide) (by decide)) qa25 qc25 (g := (mkF m 201 #[.val (.long p1), .second, .val (.long p2), .second, .val (.long p3), .second, .val (.int p4), .val (.int p5), .val (.int p6), .val (.ref r1), .val (.ref r2), .val (.int (own_ta p5)), .val (.int (own_tr p5)), .val (.int (own_ed p5)), .val (.ref b6), .val (.int (1 : Int32))] [(.ref b6)])) rfl (by rw [hml]; rfl) (Steps.refl _) (argsL := []) (rest := []) (lenOf pd___Z rfl) rfl (by show 2 * 0 + _ ≤ _; exact Nat.le_of_eq rfl) (hb hby at_201) (fun _ _ => ⟨rfl, hq24, (by decide : 15 + 0 ≤ _), (by decide : 913 + 0 ≤ _)⟩)
    dsimp only [Pt.U, Pt.locs, Pt.cells, Pt.slots] at X25 l25 y25 z25 st25 hQ25
    subst l25 y25 z25
    obtain ⟨rfl, Nq25, hq25⟩ := hQ25
    have N25 := Fr.app N24 Nq25
    refine Goes.via (B := T25.setTop (mkF m 204 #[.val (.long p1), .second, .val (.long p2), .second, .val (.long p3), .second, .val (.int p4), .val (.int p5), .val (.int p6), .val (.ref r1), .val (.ref r2), .val (.int (own_ta p5)), .val (.int (own_tr p5)), .val (.int (own_ed p5)), .val (.ref b6), .val (.int (1 : Int32))] [(.int (own_dl (own_kd p5)))])) (fun t k => st25.trans k) ?_
    refine Goes.via (B := T25.setTop (mkF m 206 #[.val (.long p1), .second, .val (.long p2), .second, .val (.long p3), .second, .val (.int p4), .val (.int p5), .val (.int p6), .val (.ref r1), .val (.ref r2), .val (.int (own_ta p5)), .val (.int (own_tr p5)), .val (.int (own_ed p5)), .val (.ref b6), .val (.int (1 : Int32))] [(.int (own_ed p5)), (.int (own_dl (own_kd p5)))])) (fun t k => XS.iload X25.here hx rfl (hb hby at_204) rfl k) ?_
    refine Goes.via (B := T25.setTop (mkF m 209 #[.val (.long p1), .second, .val (.long p2), .second, .val (.long p3), .second, .val (.int p4), .val (.int p5), .val (.int p6), .val (.ref r1), .val (.ref r2), .val (.int (own_ta p5)), .val (.int (own_tr p5)), .val (.int (own_ed p5)), .val (.ref b6), .val (.int (1 : Int32))] [])) (fun t k => XS.icmpNo X25.here hx rfl (hb hby at_206) rfl (teq (rfl : own_dl (own_kd p5) = own_ed p5)).2 k) ?_
    refine Goes.via (B := T25.setTop (mkF m 210 #[.val (.long p1), .second, .val (.long p2), .second, .val (.long p3), .second, .val (.int p4), .val (.int p5), .val (.int p6), .val (.ref r1), .val (.ref r2), .val (.int (own_ta p5)), .val (.int (own_tr p5)), .val (.int (own_ed p5)), .val (.ref b6), .val (.int (1 : Int32))] [(.int (1 : Int32))])) (fun t k => XS.iconst X25.here hx rfl (hb hby at_209) k) ?_
    refine Goes.via (B := T25.setTop (mkF m 214 #[.val (.long p1), .second, .val (.long p2), .second, .val (.long p3), .second, .val (.int p4), .val (.int p5), .val (.int p6), .val (.ref r1), .val (.ref r2), .val (.int (own_ta p5)), .val (.int (own_tr p5)), .val (.int (own_ed p5)), .val (.ref b6), .val (.int (1 : Int32))] [(.int (1 : Int32))])) (fun t k => XS.goto X25.here hx rfl (pc0 := 210) (pc' := 214) rfl (hb hby at_210) (by decide) (by decide) k) ?_
    refine Goes.via (B := T25.setTop (mkF m 216 #[.val (.long p1), .second, .val (.long p2), .second, .val (.long p3), .second, .val (.int p4), .val (.int p5), .val (.int p6), .val (.ref r1), .val (.ref r2), .val (.int (own_ta p5)), .val (.int (own_tr p5)), .val (.int (own_ed p5)), .val (.ref b6), .val (.int (1 : Int32))] [])) (fun t k => XS.istore X25.here hx rfl (hb hby at_214) rfl (l' := #[.val (.long p1), .second, .val (.long p2), .second, .val (.long p3), .second, .val (.int p4), .val (.int p5), .val (.int p6), .val (.ref r1), .val (.ref r2), .val (.int (own_ta p5)), .val (.int (own_tr p5)), .val (.int (own_ed p5)), .val (.ref b6), .val (.int (1 : Int32))]) rfl k) ?_
    refine Goes.via (B := T25.setTop (mkF m 218 #[.val (.long p1), .second, .val (.long p2), .second, .val (.long p3), .second, .val (.int p4), .val (.int p5), .val (.int p6), .val (.ref r1), .val (.ref r2), .val (.int (own_ta p5)), .val (.int (own_tr p5)), .val (.int (own_ed p5)), .val (.ref b6), .val (.int (1 : Int32))] [(.int (1 : Int32))])) (fun t k => XS.iload X25.here hx rfl (hb hby at_216) rfl k) ?_
    refine Goes.via (B := T25.setTop (mkF m 221 #[.val (.long p1), .second, .val (.long p2), .second, .val (.long p3), .second, .val (.int p4), .val (.int p5), .val (.int p6), .val (.ref r1), .val (.ref r2), .val (.int (own_ta p5)), .val (.int (own_tr p5)), .val (.int (own_ed p5)), .val (.ref b6), .val (.int (1 : Int32))] [])) (fun t k => XS.ifNo X25.here hx rfl (hb hby at_218) rfl ((if0 _ _).trans (feq (by decide : ¬ (1 : Int32) = (0 : Int32))).1) k) ?_
    refine Goes.via (B := T25.setTop (mkF m 223 #[.val (.long p1), .second, .val (.long p2), .second, .val (.long p3), .second, .val (.int p4), .val (.int p5), .val (.int p6), .val (.ref r1), .val (.ref r2), .val (.int (own_ta p5)), .val (.int (own_tr p5)), .val (.int (own_ed p5)), .val (.ref b6), .val (.int (1 : Int32))] [(.ref b6)])) (fun t k => XS.aload X25.here hx rfl (hb hby at_221) rfl rfl k) ?_
    obtain ⟨cq26, kq26, qa26, qb26, qc26⟩ := isOf hZ hq25 Ab6_22
    obtain ⟨_, _, ⟨T26, L26, kk26, nn26⟩, -, X26, ⟨Lc26, hQ26, l26, y26, z26⟩, st26⟩ := X25.virtualBack hx (y := (⟨"com/example/highwater/highwater/sweep/QueueLayout$RunReader", "next", "()Z"⟩ : MethodName)) (z := (⟨"com/example/highwater/highwater/sweep/QueueLayout$RunReader", "next", "()Z"⟩ : MethodName)) hown (mvT hZ (hw _ (List.mem_of_getElem? (i := 33) rfl))) (mvT hZ (hw _ (List.mem_of_getElem? (i := 34) rfl))) (notFace_of_selects (args := #[]) (mvT hZ (hw _ (List.mem_of_getElem? (i := 36) rfl)))) (mvT hZ (hw _ (List.mem_of_getElem? (i := 36) rfl))) (mvT hZ (hw _ (List.mem_of_getElem? (i := 35) rfl))) (by decide) (backOf (W := 0) (rm8 l Z a0 hw [] b6 r2 kq2 vs2 (own_nx (own_nx (own_nx (1 : Int32) (own_ta p5)) (own_tr p5)) (own_tc p5)) T22.heap n0 Z22 Fb6_run_22 Fb6_next_22 Vr2_22 (own_seven p5)) hZ (hw _ (List.mem_of_getElem? (i := 37) rfl)) (hw _ (List.mem_of_getElem? (i := 13) rfl)) (by decide) (by decide)) qa26 qc26 (g := (mkF m 223 #[.val (.long p1), .second, .val (.long p2), .second, .val (.long p3), .second, .val (.int p4), .val (.int p5), .val (.int p6), .val (.ref r1), .val (.ref r2), .val (.int (own_ta p5)), .val (.int (own_tr p5)), .val (.int (own_ed p5)), .val (.ref b6), .val (.int (1 : Int32))] [(.ref b6)])) rfl (by rw [hml]; rfl) (Steps.refl _) (argsL := []) (rest := []) (lenOf pd___Z rfl) rfl (by show 2 * 0 + _ ≤ _; exact Nat.le_of_eq rfl) (hb hby at_223) (fun _ _ => ⟨rfl, hq25, (by decide : 15 + 0 ≤ _), (by decide : 913 + 0 ≤ _)⟩)
    dsimp only [Pt.U, Pt.locs, Pt.cells, Pt.slots] at X26 l26 y26 z26 st26 hQ26
    subst l26 y26 z26
    obtain ⟨rfl, Nq26, hq26⟩ := hQ26
    have N26 := Fr.app N25 Nq26
    refine Goes.via (B := T26.setTop (mkF m 226 #[.val (.long p1), .second, .val (.long p2), .second, .val (.long p3), .second, .val (.int p4), .val (.int p5), .val (.int p6), .val (.ref r1), .val (.ref r2), .val (.int (own_ta p5)), .val (.int (own_tr p5)), .val (.int (own_ed p5)), .val (.ref b6), .val (.int (1 : Int32))] [(.int (0 : Int32))])) (fun t k => st26.trans k) ?_
    refine Goes.via (B := T26.setTop (mkF m 229 #[.val (.long p1), .second, .val (.long p2), .second, .val (.long p3), .second, .val (.int p4), .val (.int p5), .val (.int p6), .val (.ref r1), .val (.ref r2), .val (.int (own_ta p5)), .val (.int (own_tr p5)), .val (.int (own_ed p5)), .val (.ref b6), .val (.int (1 : Int32))] [])) (fun t k => XS.ifNo X26.here hx rfl (hb hby at_226) rfl ((if0 _ _).trans (teq (by decide : (0 : Int32) = (0 : Int32))).2) k) ?_
    refine Goes.via (B := T26.setTop (mkF m 230 #[.val (.long p1), .second, .val (.long p2), .second, .val (.long p3), .second, .val (.int p4), .val (.int p5), .val (.int p6), .val (.ref r1), .val (.ref r2), .val (.int (own_ta p5)), .val (.int (own_tr p5)), .val (.int (own_ed p5)), .val (.ref b6), .val (.int (1 : Int32))] [(.int (1 : Int32))])) (fun t k => XS.iconst X26.here hx rfl (hb hby at_229) k) ?_
    refine Goes.via (B := T26.setTop (mkF m 234 #[.val (.long p1), .second, .val (.long p2), .second, .val (.long p3), .second, .val (.int p4), .val (.int p5), .val (.int p6), .val (.ref r1), .val (.ref r2), .val (.int (own_ta p5)), .val (.int (own_tr p5)), .val (.int (own_ed p5)), .val (.ref b6), .val (.int (1 : Int32))] [(.int (1 : Int32))])) (fun t k => XS.goto X26.here hx rfl (pc0 := 230) (pc' := 234) rfl (hb hby at_230) (by decide) (by decide) k) ?_
    refine Goes.via (B := T26.setTop (mkF m 236 #[.val (.long p1), .second, .val (.long p2), .second, .val (.long p3), .second, .val (.int p4), .val (.int p5), .val (.int p6), .val (.ref r1), .val (.ref r2), .val (.int (own_ta p5)), .val (.int (own_tr p5)), .val (.int (own_ed p5)), .val (.ref b6), .val (.int (1 : Int32))] [])) (fun t k => XS.istore X26.here hx rfl (hb hby at_234) rfl (l' := #[.val (.long p1), .second, .val (.long p2), .second, .val (.long p3), .second, .val (.int p4), .val (.int p5), .val (.int p6), .val (.ref r1), .val (.ref r2), .val (.int (own_ta p5)), .val (.int (own_tr p5)), .val (.int (own_ed p5)), .val (.ref b6), .val (.int (1 : Int32))]) rfl k) ?_
    refine Goes.via (B := T26.setTop (mkF m 238 #[.val (.long p1), .second, .val (.long p2), .second, .val (.long p3), .second, .val (.int p4), .val (.int p5), .val (.int p6), .val (.ref r1), .val (.ref r2), .val (.int (own_ta p5)), .val (.int (own_tr p5)), .val (.int (own_ed p5)), .val (.ref b6), .val (.int (1 : Int32))] [(.int (1 : Int32))])) (fun t k => XS.iload X26.here hx rfl (hb hby at_236) rfl k) ?_
    exact own_outW (s := s) X26 hS22 (by rw [hq26]; exact hk22) (v := some (.int (1 : Int32))) (fun h => by rw [Bd.returns] at h; cases h) Bd.notSynchronized (fun fs hr => retOut X26 hx Bd.returns rfl (Or.inl ⟨rfl, Or.inr (Or.inl rfl), _, rfl⟩) (hb hby at_238) hr) ⟨rfl, N26⟩ (by decide) (by decide)
set_option maxRecDepth 65536 in
set_option maxHeartbeats 40000000 in
theorem comes_1 {Post : Tables → Env → Array Value → State → Outcome → State → Prop} (hpost : ∀ tb e args s v u, (limb_1_1.after args s (.returned v) u = true ∧ limb_1_2.after args s (.returned v) u = true ∧ True) → ReturnedEndW s (.returned v) u (Jvm.fieldLocs frame_1_writes args s ++ Jvm.arrayLocs frame_1_arrays args s ++ Jvm.staticLocs frame_1_statics s) 16 1152 → Post tb e args s (.returned v) u) :
    ArmFor flags0 classFile x code maxLocals ret World_1 tables_1 room_1 Calls_1 rest_1 Pre_1 Post := by
  intro l hfl _ _ p e ha hc hk s m args below hf hA hF happ hP
  obtain ⟨hcalls, hrest, hpre⟩ := hP
  obtain ⟨-, -, -, hnamed, -, -, -, hat⟩ := (Spec.applies_iff hf).mp happ
  obtain ⟨hg, hn⟩ := and_e (Cond.before_iff.mp (show (Jvm.Cond.and given_1 narrow_1).before args s = true from hpre))
  obtain ⟨h1, r0⟩ := and_e hg
  obtain ⟨t0, r1⟩ := and_e r0
  obtain ⟨t1, r2⟩ := and_e r1
  obtain ⟨t2, r3⟩ := and_e r2
  obtain ⟨t3, r4⟩ := and_e r3
  obtain ⟨t4, r5⟩ := and_e r4
  obtain ⟨w0, w1, w2, w3, w4, w5, rfl⟩ : ∃ w0 w1 w2 w3 w4 w5 : Value, args = #[w0, w1, w2, w3, w4, w5] := by
    have hs : args.size = 6 := by simpa [Cond.value, given_1] using h1
    obtain ⟨L⟩ := args
    match L, hs with
    | [w0, w1, w2, w3, w4, w5], _ => exact ⟨w0, w1, w2, w3, w4, w5, rfl⟩
  have hw := fun d (hd : d ∈ tables_1) => atoms_spec (ws := Jvm.Cond.code x code maxLocals ret :: tables_1) hat d (List.mem_cons_of_mem _ hd)
  obtain ⟨i0, q0⟩ := isL_v t0
  obtain rfl : w0 = (.long i0) := Option.some.inj q0
  obtain ⟨i1, q1⟩ := isL_v t1
  obtain rfl : w1 = (.long i1) := Option.some.inj q1
  obtain ⟨i2, q2⟩ := isL_v t2
  obtain rfl : w2 = (.long i2) := Option.some.inj q2
  obtain ⟨i3, q3⟩ := is_v t3
  obtain rfl : w3 = (.int i3) := Option.some.inj q3
  obtain ⟨i4, q4⟩ := is_v t4
  obtain rfl : w4 = (.int i4) := Option.some.inj q4
  obtain ⟨i5, q5⟩ := is_v r5
  obtain rfl : w5 = (.int i5) := Option.some.inj q5
  obtain ⟨n, o, h1, h2, h3, _, L, rfl, ⟨rfl, N⟩, hq⟩ := rm0 l s _ hw tables_1 i0 i1 i2 i3 i4 i5  s.heap s.heap.size (Nat.le_refl _) p e ha hc hk s m _ below hf ((Spec.applies_iff_loose hf).mp happ).1 ⟨rfl, State.Warmed39.refl s, rfl⟩ trivial
  refine ⟨n, _, h1, h2, h3, hpost _ _ _ _ _ _ ⟨Cond.after_iff.mpr rfl, Cond.after_iff.mpr (eq_i res_at (Term.int_eval (1)) rfl), trivial⟩ ⟨hq.1, hq.2.1, hq.2.2.1, (hq.2.2.2.sift fun y hy => Or.inr (N y hy)).mono (by decide) (by decide)⟩⟩
theorem main_1_1 : Claimed_1_1 := comes_1 fun _ _ _ _ _ _ h hF => ⟨h.1, hF⟩
theorem main_1_2 : Claimed_1_2 := comes_1 fun _ _ _ _ _ _ h hF => ⟨h.2.1, hF⟩
end Jvm.Pilot.@@N@@
namespace Jvm.Pilot.@@N@@
open Jvm Jvm.ClassFile Sem Op Lib Jvm.Free Jvm.Stand Jvm.Pilot.@@N@@.Jvm.D
/-! MADE BY PROGRAM (witnessworld.py) out of the Statement's table words and the real class files: 19 classes; the members and pool entries that the words name. The judged class is class 1, her method 4. -/
namespace start1
open Jvm.ClassFile
def u (s : String) : CpInfo := .utf8 (stringToUtf16 s)
/-- a pool by its gaps: so many unusable entries, then the entry; so many at the end -/
def gap : Nat → List CpInfo → List CpInfo
  | 0, r => r
  | n + 1, r => .unusable :: gap n r
def poolList (es : List (Nat × CpInfo)) (last : Nat) : List CpInfo := es.foldr (fun e r => gap e.1 (e.2 :: r)) (gap last [])
def pool (es : List (Nat × CpInfo)) (last : Nat) : Array CpInfo := ⟨poolList es last⟩
def fileOf (pool : Array CpInfo) (this : Nat) (attrs : Array Attribute := #[]) (ms : Array MethodInfo := #[]) (fl : Nat := 33) (sup : Nat := 0) (ifs : Array Nat := #[]) (fds : Array FieldInfo := #[]) : ClassFile where
  minorVersion := 0
  majorVersion := 65
  constantPool := pool
  accessFlags := fl
  thisClass := this
  superClass := sup
  interfaces := ifs
  fields := fds
  methods := ms
  attributes := attrs
def plain (name : String) (sup : Option ClassId) : Class where
  name := name
  kind := .ordinary
  loader := none
  accessFlags := 33
  super := sup
  interfaces := #[]
  cf := none
  fields := #[]
  methods := #[]
  instanceTypes := #[]
  staticTypes := #[]
  resolved := #[]
  callSites := []
  init := .initialized
  statics := none
  mirror := none

def pool0 : Array CpInfo := pool [(5, u "<init>"), (0, u "()V"), (1, .class_ 10), (1, u "java/lang/Object")] 113

def k0c0 : Code := { maxStack := 0, maxLocals := 1, code := object_method_1_code, exceptionTable := #[], attributes := #[] }
def k0m0 : Method := { name := "<init>", desc := "()V", sig := { parameters := [], returnType := none }, accessFlags := 1, code := some k0c0 }
/-- java/lang/Object -/
def k0 : Class := { plain "java/lang/Object" none with
  accessFlags := 33
  interfaces := #[]
  cf := some (fileOf pool0 8 #[] #[{ accessFlags := 1, nameIndex := 5, descriptorIndex := 6, attributes := #[] }] 33 0 #[] #[])
  fields := #[]
  methods := #[k0m0]
  instanceTypes := #[]
  staticTypes := #[]
  resolved := Array.replicate 124 none
  statics := none }

def pool1 : Array CpInfo := pool [(2, .class_ 4), (0, .nameAndType 5 6), (0, u "java/lang/Object"), (0, u "<init>"), (0, u "()V"), (0, .methodref 8 9), (0, .class_ 10), (0, .nameAndType 11 12), (0, u "com/example/highwater/highwater/sweep/QueueLayoutBeginPinLaw"), (0, u "tableLen"), (0, u "(I)I"), (0, .methodref 8 14), (0, .nameAndType 15 12), (0, u "rowLen"), (0, .methodref 8 17), (0, .nameAndType 18 19), (0, u "build"), (0, u "(JI)[B"), (0, .class_ 21), (0, u "com/example/highwater/highwater/sweep/QueueLayout$RunReader"), (0, .methodref 20 3), (0, .methodref 20 24), (0, .nameAndType 25 26), (0, u "begin"), (0, u "(J[B)V"), (0, .methodref 20 28), (0, .nameAndType 29 30), (0, u "next"), (0, u "()Z"), (0, .methodref 20 32), (0, .nameAndType 33 34), (0, u "run"), (0, u "()[B"), (0, .methodref 20 36), (0, .nameAndType 37 38), (0, u "tableAt"), (0, u "()I"), (0, .methodref 20 40), (0, .nameAndType 41 38), (0, u "rowAt"), (0, .methodref 20 43), (0, .nameAndType 44 38), (0, u "columnAt"), (0, .methodref 20 46), (0, .nameAndType 47 30), (0, u "deletion"), (2, u "law"), (0, u "(JJJIII)Z")] 9

def k1m0 : Method := { name := "<init>", desc := "()V", sig := { parameters := [], returnType := none }, accessFlags := 2, code := none }
def k1c1 : Code := { maxStack := 2, maxLocals := 1, code := method_2_code, exceptionTable := #[], attributes := #[] }
def k1m1 : Method := { name := "tableLen", desc := "(I)I", sig := { parameters := [.int], returnType := some .int }, accessFlags := 10, code := some k1c1 }
def k1c2 : Code := { maxStack := 3, maxLocals := 2, code := method_3_code, exceptionTable := #[], attributes := #[] }
def k1m2 : Method := { name := "rowLen", desc := "(I)I", sig := { parameters := [.int], returnType := some .int }, accessFlags := 10, code := some k1c2 }
def k1c3 : Code := { maxStack := 5, maxLocals := 7, code := method_4_code, exceptionTable := #[], attributes := #[] }
def k1m3 : Method := { name := "build", desc := "(JI)[B", sig := { parameters := [.long, .int], returnType := some (.array .byte) }, accessFlags := 10, code := some k1c3 }
def k1c4 : Code := { maxStack := 4, maxLocals := 16, code := code, exceptionTable := #[], attributes := #[] }
def k1m4 : Method := { name := "law", desc := "(JJJIII)Z", sig := { parameters := [.long, .long, .long, .int, .int, .int], returnType := some .boolean }, accessFlags := 9, code := some k1c4 }
/-- com/example/highwater/highwater/sweep/QueueLayoutBeginPinLaw -/
def k1 : Class := { plain "com/example/highwater/highwater/sweep/QueueLayoutBeginPinLaw" (some 0) with
  accessFlags := 49
  interfaces := #[]
  cf := some (fileOf pool1 8 #[] #[{ accessFlags := 2, nameIndex := 5, descriptorIndex := 6, attributes := #[] }, { accessFlags := 10, nameIndex := 11, descriptorIndex := 12, attributes := #[] }, { accessFlags := 10, nameIndex := 15, descriptorIndex := 12, attributes := #[] }, { accessFlags := 10, nameIndex := 18, descriptorIndex := 19, attributes := #[] }, { accessFlags := 9, nameIndex := 50, descriptorIndex := 51, attributes := #[] }] 49 2 #[] #[])
  fields := #[]
  methods := #[k1m0, k1m1, k1m2, k1m3, k1m4]
  instanceTypes := #[]
  staticTypes := #[]
  resolved := Array.replicate 61 none
  statics := none }

def pool2 : Array CpInfo := pool [(1, .class_ 2), (0, u "com/example/highwater/highwater/sweep/QueueLayout"), (0, .methodref 4 5), (0, .class_ 6), (0, .nameAndType 7 8), (0, u "java/lang/Object"), (0, u "<init>"), (0, u "()V"), (0, .fieldref 10 11), (0, .class_ 12), (0, .nameAndType 13 14), (0, u "com/example/highwater/highwater/sweep/QueueLayout$RunReader"), (0, u "run"), (0, u "[B"), (0, .fieldref 10 16), (0, .nameAndType 17 18), (0, u "start"), (0, u "J"), (0, .fieldref 10 20), (0, .nameAndType 21 22), (0, u "next"), (0, u "I"), (0, .fieldref 10 24), (0, .nameAndType 25 22), (0, u "tableAt"), (4, .fieldref 10 31), (0, .nameAndType 32 33), (0, u "namesRow"), (0, u "Z"), (0, .methodref 10 35), (0, .nameAndType 36 37), (0, u "part"), (0, u "()I"), (0, .fieldref 10 39), (0, .nameAndType 40 22), (0, u "tableLength"), (0, .fieldref 10 42), (0, .nameAndType 43 22), (0, u "rowLength"), (0, .fieldref 10 45), (0, .nameAndType 46 22), (0, u "rowAt"), (0, .fieldref 10 48), (0, .nameAndType 49 22), (0, u "columnLength"), (0, .fieldref 10 51), (0, .nameAndType 52 22), (0, u "columnAt"), (0, .fieldref 10 54), (0, .nameAndType 55 33), (0, u "deletion"), (2, u "begin"), (0, u "(J[B)V"), (2, u "()Z"), (17, .string 81), (0, u "length in a write of the sweep queue"), (0, .methodref 83 84), (0, .class_ 85), (0, .nameAndType 86 87), (0, u "com/example/highwater/highwater/store/VarLong"), (0, u "read"), (0, u "([BIILjava/lang/String;)J"), (0, .methodref 83 89), (0, .nameAndType 90 91), (0, u "length"), (0, u "(J)I"), (5, u "()[B")] 9

def k2c0 : Code := { maxStack := 1, maxLocals := 1, code := prog_79_method_1_code, exceptionTable := #[], attributes := #[] }
def k2m0 : Method := { name := "<init>", desc := "()V", sig := { parameters := [], returnType := none }, accessFlags := 0, code := some k2c0 }
def k2c1 : Code := { maxStack := 3, maxLocals := 4, code := prog_79_method_2_code, exceptionTable := #[], attributes := #[] }
def k2m1 : Method := { name := "begin", desc := "(J[B)V", sig := { parameters := [.long, (.array .byte)], returnType := none }, accessFlags := 0, code := some k2c1 }
def k2c2 : Code := { maxStack := 5, maxLocals := 2, code := prog_79_method_3_code, exceptionTable := #[], attributes := #[] }
def k2m2 : Method := { name := "next", desc := "()Z", sig := { parameters := [], returnType := some .boolean }, accessFlags := 0, code := some k2c2 }
def k2c3 : Code := { maxStack := 1, maxLocals := 1, code := prog_79_method_5_code, exceptionTable := #[], attributes := #[] }
def k2m3 : Method := { name := "run", desc := "()[B", sig := { parameters := [], returnType := some (.array .byte) }, accessFlags := 0, code := some k2c3 }
def k2c4 : Code := { maxStack := 1, maxLocals := 1, code := prog_79_method_7_code, exceptionTable := #[], attributes := #[] }
def k2m4 : Method := { name := "deletion", desc := "()Z", sig := { parameters := [], returnType := some .boolean }, accessFlags := 0, code := some k2c4 }
def k2c5 : Code := { maxStack := 1, maxLocals := 1, code := prog_79_method_8_code, exceptionTable := #[], attributes := #[] }
def k2m5 : Method := { name := "tableAt", desc := "()I", sig := { parameters := [], returnType := some .int }, accessFlags := 0, code := some k2c5 }
def k2c6 : Code := { maxStack := 1, maxLocals := 1, code := prog_79_method_10_code, exceptionTable := #[], attributes := #[] }
def k2m6 : Method := { name := "rowAt", desc := "()I", sig := { parameters := [], returnType := some .int }, accessFlags := 0, code := some k2c6 }
def k2c7 : Code := { maxStack := 1, maxLocals := 1, code := prog_79_method_12_code, exceptionTable := #[], attributes := #[] }
def k2m7 : Method := { name := "columnAt", desc := "()I", sig := { parameters := [], returnType := some .int }, accessFlags := 0, code := some k2c7 }
def k2c8 : Code := { maxStack := 4, maxLocals := 3, code := prog_79_method_16_code, exceptionTable := #[], attributes := #[] }
def k2m8 : Method := { name := "part", desc := "()I", sig := { parameters := [], returnType := some .int }, accessFlags := 2, code := some k2c8 }
/-- com/example/highwater/highwater/sweep/QueueLayout$RunReader -/
def k2 : Class := { plain "com/example/highwater/highwater/sweep/QueueLayout$RunReader" (some 0) with
  accessFlags := 48
  interfaces := #[]
  cf := some (fileOf pool2 10 #[.nestHost 1] #[{ accessFlags := 0, nameIndex := 7, descriptorIndex := 8, attributes := #[] }, { accessFlags := 0, nameIndex := 58, descriptorIndex := 59, attributes := #[] }, { accessFlags := 0, nameIndex := 21, descriptorIndex := 62, attributes := #[] }, { accessFlags := 0, nameIndex := 13, descriptorIndex := 97, attributes := #[] }, { accessFlags := 0, nameIndex := 55, descriptorIndex := 62, attributes := #[] }, { accessFlags := 0, nameIndex := 25, descriptorIndex := 37, attributes := #[] }, { accessFlags := 0, nameIndex := 46, descriptorIndex := 37, attributes := #[] }, { accessFlags := 0, nameIndex := 52, descriptorIndex := 37, attributes := #[] }, { accessFlags := 2, nameIndex := 36, descriptorIndex := 37, attributes := #[] }] 48 4 #[] #[{ accessFlags := 2, nameIndex := 13, descriptorIndex := 14, attributes := #[] }, { accessFlags := 2, nameIndex := 17, descriptorIndex := 18, attributes := #[] }, { accessFlags := 2, nameIndex := 21, descriptorIndex := 22, attributes := #[] }, { accessFlags := 2, nameIndex := 25, descriptorIndex := 22, attributes := #[] }, { accessFlags := 2, nameIndex := 40, descriptorIndex := 22, attributes := #[] }, { accessFlags := 2, nameIndex := 46, descriptorIndex := 22, attributes := #[] }, { accessFlags := 2, nameIndex := 43, descriptorIndex := 22, attributes := #[] }, { accessFlags := 2, nameIndex := 52, descriptorIndex := 22, attributes := #[] }, { accessFlags := 2, nameIndex := 49, descriptorIndex := 22, attributes := #[] }, { accessFlags := 2, nameIndex := 55, descriptorIndex := 33, attributes := #[] }, { accessFlags := 2, nameIndex := 32, descriptorIndex := 33, attributes := #[] }])
  fields := #[{ name := "run", type := (.array .byte), accessFlags := 2, slot := 0, constantValue := 0 }, { name := "start", type := .long, accessFlags := 2, slot := 1, constantValue := 0 }, { name := "next", type := .int, accessFlags := 2, slot := 2, constantValue := 0 }, { name := "tableAt", type := .int, accessFlags := 2, slot := 3, constantValue := 0 }, { name := "tableLength", type := .int, accessFlags := 2, slot := 4, constantValue := 0 }, { name := "rowAt", type := .int, accessFlags := 2, slot := 5, constantValue := 0 }, { name := "rowLength", type := .int, accessFlags := 2, slot := 6, constantValue := 0 }, { name := "columnAt", type := .int, accessFlags := 2, slot := 7, constantValue := 0 }, { name := "columnLength", type := .int, accessFlags := 2, slot := 8, constantValue := 0 }, { name := "deletion", type := .boolean, accessFlags := 2, slot := 9, constantValue := 0 }, { name := "namesRow", type := .boolean, accessFlags := 2, slot := 10, constantValue := 0 }]
  methods := #[k2m0, k2m1, k2m2, k2m3, k2m4, k2m5, k2m6, k2m7, k2m8]
  instanceTypes := #[(.array .byte), .long, .int, .int, .int, .int, .int, .int, .int, .boolean, .boolean]
  staticTypes := #[]
  resolved := Array.replicate 107 none
  statics := none }

def pool3 : Array CpInfo := pool [(1, .class_ 2), (0, u "java/io/Serializable"), (0, .class_ 4), (0, u "java/lang/Object")] 2

/-- java/io/Serializable -/
def k3 : Class := { plain "java/io/Serializable" (some 0) with
  accessFlags := 1537
  interfaces := #[]
  cf := some (fileOf pool3 1 #[] #[] 1537 3 #[] #[])
  fields := #[]
  methods := #[]
  instanceTypes := #[]
  staticTypes := #[]
  resolved := Array.replicate 7 none
  statics := none }

def pool4 : Array CpInfo := pool [(1, .class_ 2), (0, u "java/lang/Comparable"), (0, .class_ 4), (0, u "java/lang/Object")] 7

/-- java/lang/Comparable -/
def k4 : Class := { plain "java/lang/Comparable" (some 0) with
  accessFlags := 1537
  interfaces := #[]
  cf := some (fileOf pool4 1 #[] #[] 1537 3 #[] #[])
  fields := #[]
  methods := #[]
  instanceTypes := #[]
  staticTypes := #[]
  resolved := Array.replicate 12 none
  statics := none }

def pool5 : Array CpInfo := pool [(2, .class_ 4), (1, u "java/lang/CharSequence"), (42, .class_ 48), (0, u "java/lang/CharSequence$1CodePointIterator"), (10, .class_ 60), (0, u "java/lang/CharSequence$1CharIterator"), (5, .class_ 67), (0, u "java/lang/Object")] 63

/-- java/lang/CharSequence -/
def k5 : Class := { plain "java/lang/CharSequence" (some 0) with
  accessFlags := 1537
  interfaces := #[]
  cf := some (fileOf pool5 2 #[.nestMembers #[47, 59]] #[] 1537 66 #[] #[])
  fields := #[]
  methods := #[]
  instanceTypes := #[]
  staticTypes := #[]
  resolved := Array.replicate 131 none
  statics := none }

def pool6 : Array CpInfo := pool [(1, .class_ 2), (0, u "java/lang/constant/Constable"), (0, .class_ 4), (0, u "java/lang/Object")] 6

/-- java/lang/constant/Constable -/
def k6 : Class := { plain "java/lang/constant/Constable" (some 0) with
  accessFlags := 1537
  interfaces := #[]
  cf := some (fileOf pool6 1 #[] #[] 1537 3 #[] #[])
  fields := #[]
  methods := #[]
  instanceTypes := #[]
  staticTypes := #[]
  resolved := Array.replicate 11 none
  statics := none }

def pool7 : Array CpInfo := pool [(1, .class_ 2), (0, u "java/lang/constant/ConstantDesc"), (0, .class_ 4), (0, u "java/lang/Object")] 32

/-- java/lang/constant/ConstantDesc -/
def k7 : Class := { plain "java/lang/constant/ConstantDesc" (some 0) with
  accessFlags := 1537
  interfaces := #[]
  cf := some (fileOf pool7 1 #[] #[] 1537 3 #[] #[])
  fields := #[]
  methods := #[]
  instanceTypes := #[]
  staticTypes := #[]
  resolved := Array.replicate 37 none
  statics := none }

def pool8 : Array CpInfo := pool [(2, .class_ 4), (1, u "java/lang/Object"), (0, u "<init>"), (0, u "()V"), (3, .class_ 12), (1, u "java/lang/String"), (0, u "value"), (0, u "[B"), (2, u "coder"), (0, u "B"), (2, u "hash"), (0, u "I"), (2, u "hashIsZero"), (0, u "Z"), (13, u "COMPACT_STRINGS"), (534, .class_ 576), (0, u "java/lang/CharSequence"), (22, u "CASE_INSENSITIVE_ORDER"), (0, u "Ljava/util/Comparator;"), (500, u "serialPersistentFields"), (0, u "[Ljava/io/ObjectStreamField;"), (0, .class_ 1104), (0, u "java/lang/String$CaseInsensitiveComparator"), (1, .class_ 1107), (0, u "java/io/Serializable"), (0, .class_ 1109), (0, u "java/lang/Comparable"), (0, .class_ 1111), (0, u "java/lang/constant/Constable"), (0, .class_ 1113), (0, u "java/lang/constant/ConstantDesc"), (2, u "serialVersionUID"), (0, u "J"), (3, u "REPL"), (0, u "C"), (2, u "LATIN1"), (1, u "UTF16")] 323

def k8m0 : Method := { name := "<init>", desc := "()V", sig := { parameters := [], returnType := none }, accessFlags := 1, code := none }
/-- java/lang/String -/
def k8 : Class := { plain "java/lang/String" (some 0) with
  accessFlags := 49
  interfaces := #[3, 4, 5, 6, 7]
  cf := some (fileOf pool8 10 #[.nestMembers #[1103]] #[{ accessFlags := 1, nameIndex := 5, descriptorIndex := 6, attributes := #[] }] 49 2 #[1106, 1108, 575, 1110, 1112] #[{ accessFlags := 18, nameIndex := 13, descriptorIndex := 14, attributes := #[] }, { accessFlags := 18, nameIndex := 17, descriptorIndex := 18, attributes := #[] }, { accessFlags := 2, nameIndex := 21, descriptorIndex := 22, attributes := #[] }, { accessFlags := 2, nameIndex := 25, descriptorIndex := 26, attributes := #[] }, { accessFlags := 26, nameIndex := 1116, descriptorIndex := 1117, attributes := #[] }, { accessFlags := 24, nameIndex := 40, descriptorIndex := 26, attributes := #[] }, { accessFlags := 26, nameIndex := 1101, descriptorIndex := 1102, attributes := #[] }, { accessFlags := 26, nameIndex := 1121, descriptorIndex := 1122, attributes := #[] }, { accessFlags := 25, nameIndex := 599, descriptorIndex := 600, attributes := #[] }, { accessFlags := 24, nameIndex := 1125, descriptorIndex := 18, attributes := #[] }, { accessFlags := 24, nameIndex := 1127, descriptorIndex := 18, attributes := #[] }])
  fields := #[{ name := "value", type := (.array .byte), accessFlags := 18, slot := 0, constantValue := 0 }, { name := "coder", type := .byte, accessFlags := 18, slot := 1, constantValue := 0 }, { name := "hash", type := .int, accessFlags := 2, slot := 2, constantValue := 0 }, { name := "hashIsZero", type := .boolean, accessFlags := 2, slot := 3, constantValue := 0 }, { name := "serialVersionUID", type := .long, accessFlags := 26, slot := 0, constantValue := 0 }, { name := "COMPACT_STRINGS", type := .boolean, accessFlags := 24, slot := 1, constantValue := 0 }, { name := "serialPersistentFields", type := (.array (.object "java/io/ObjectStreamField")), accessFlags := 26, slot := 2, constantValue := 0 }, { name := "REPL", type := .char, accessFlags := 26, slot := 3, constantValue := 0 }, { name := "CASE_INSENSITIVE_ORDER", type := (.object "java/util/Comparator"), accessFlags := 25, slot := 4, constantValue := 0 }, { name := "LATIN1", type := .byte, accessFlags := 24, slot := 5, constantValue := 0 }, { name := "UTF16", type := .byte, accessFlags := 24, slot := 6, constantValue := 0 }]
  methods := #[k8m0]
  instanceTypes := #[(.array .byte), .byte, .int, .boolean]
  staticTypes := #[.long, .boolean, (.array (.object "java/io/ObjectStreamField")), .char, (.object "java/util/Comparator"), .byte, .byte]
  resolved := Array.replicate 1451 none
  statics := none }

def pool9 : Array CpInfo := pool [(2, .class_ 4), (1, u "java/lang/Object"), (0, u "<init>"), (0, u "()V"), (1, .class_ 10), (1, u "com/example/highwater/highwater/store/VarLong"), (0, u "length"), (0, u "(J)I"), (4, .class_ 18), (0, u "java/lang/Long"), (10, .methodref 30 31), (0, .class_ 32), (0, .nameAndType 33 34), (0, u "java/lang/Math"), (0, u "max"), (0, u "(II)I"), (20, u "read"), (0, u "([BIILjava/lang/String;)J"), (20, .methodref 17 78), (0, .nameAndType 79 12), (0, u "numberOfLeadingZeros"), (19, u "MAX_BYTES"), (0, u "I")] 27

def k9m0 : Method := { name := "<init>", desc := "()V", sig := { parameters := [], returnType := none }, accessFlags := 2, code := none }
def k9c1 : Code := { maxStack := 5, maxLocals := 6, code := prog_62_method_6_code, exceptionTable := #[], attributes := #[] }
def k9m1 : Method := { name := "read", desc := "([BIILjava/lang/String;)J", sig := { parameters := [(.array .byte), .int, .int, (.object "java/lang/String")], returnType := some .long }, accessFlags := 9, code := some k9c1 }
def k9c2 : Code := { maxStack := 3, maxLocals := 3, code := prog_62_method_7_code, exceptionTable := #[], attributes := #[] }
def k9m2 : Method := { name := "length", desc := "(J)I", sig := { parameters := [.long], returnType := some .int }, accessFlags := 9, code := some k9c2 }
/-- com/example/highwater/highwater/store/VarLong -/
def k9 : Class := { plain "com/example/highwater/highwater/store/VarLong" (some 0) with
  accessFlags := 49
  interfaces := #[]
  cf := some (fileOf pool9 8 #[] #[{ accessFlags := 2, nameIndex := 5, descriptorIndex := 6, attributes := #[] }, { accessFlags := 9, nameIndex := 55, descriptorIndex := 56, attributes := #[] }, { accessFlags := 9, nameIndex := 11, descriptorIndex := 12, attributes := #[] }] 49 2 #[] #[{ accessFlags := 26, nameIndex := 99, descriptorIndex := 100, attributes := #[] }])
  fields := #[{ name := "MAX_BYTES", type := .int, accessFlags := 26, slot := 0, constantValue := 0 }]
  methods := #[k9m0, k9m1, k9m2]
  instanceTypes := #[]
  staticTypes := #[.int]
  resolved := Array.replicate 128 none
  statics := none }

def pool10 : Array CpInfo := pool [(2, .class_ 4), (1, u "java/lang/Object"), (0, u "<init>"), (0, u "()V"), (1, .class_ 10), (1, u "java/lang/Number"), (2, .class_ 14), (0, u "java/io/Serializable"), (0, u "serialVersionUID"), (0, u "J")] 20

def k10m0 : Method := { name := "<init>", desc := "()V", sig := { parameters := [], returnType := none }, accessFlags := 1, code := none }
/-- java/lang/Number -/
def k10 : Class := { plain "java/lang/Number" (some 0) with
  accessFlags := 1057
  interfaces := #[3]
  cf := some (fileOf pool10 8 #[] #[{ accessFlags := 1, nameIndex := 5, descriptorIndex := 6, attributes := #[] }] 1057 2 #[13] #[{ accessFlags := 26, nameIndex := 15, descriptorIndex := 16, attributes := #[] }])
  fields := #[{ name := "serialVersionUID", type := .long, accessFlags := 26, slot := 0, constantValue := 0 }]
  methods := #[k10m0]
  instanceTypes := #[]
  staticTypes := #[.long]
  resolved := Array.replicate 37 none
  statics := none }

def pool11 : Array CpInfo := pool [(1, .class_ 2), (0, u "java/lang/Long"), (15, .class_ 20), (1, u "java/lang/Integer"), (79, u "numberOfLeadingZeros"), (0, u "(J)I"), (133, .class_ 237), (1, u "java/lang/Long$LongCache"), (33, .class_ 272), (0, u "java/lang/Number"), (2, u "value"), (0, u "J"), (31, .methodref 18 309), (0, .nameAndType 100 310), (0, u "(I)I"), (50, u "TYPE"), (0, u "Ljava/lang/Class;"), (0, .class_ 364), (0, u "java/lang/Comparable"), (0, .class_ 366), (0, u "java/lang/constant/Constable"), (0, .class_ 368), (0, u "java/lang/constant/ConstantDesc"), (0, u "MIN_VALUE"), (1, u "MAX_VALUE"), (4, u "SIZE"), (0, u "I"), (1, u "BYTES"), (1, u "serialVersionUID")] 142

def k11c0 : Code := { maxStack := 3, maxLocals := 3, code := jdk_35_method_48_code, exceptionTable := #[], attributes := #[] }
def k11m0 : Method := { name := "numberOfLeadingZeros", desc := "(J)I", sig := { parameters := [.long], returnType := some .int }, accessFlags := 9, code := some k11c0 }
/-- java/lang/Long -/
def k11 : Class := { plain "java/lang/Long" (some 10) with
  accessFlags := 49
  interfaces := #[4, 6, 7]
  cf := some (fileOf pool11 1 #[.nestMembers #[235]] #[{ accessFlags := 9, nameIndex := 100, descriptorIndex := 101, attributes := #[] }] 49 271 #[363, 365, 367] #[{ accessFlags := 25, nameIndex := 369, descriptorIndex := 276, attributes := #[] }, { accessFlags := 25, nameIndex := 371, descriptorIndex := 276, attributes := #[] }, { accessFlags := 25, nameIndex := 361, descriptorIndex := 362, attributes := #[] }, { accessFlags := 18, nameIndex := 275, descriptorIndex := 276, attributes := #[] }, { accessFlags := 25, nameIndex := 376, descriptorIndex := 377, attributes := #[] }, { accessFlags := 25, nameIndex := 379, descriptorIndex := 377, attributes := #[] }, { accessFlags := 26, nameIndex := 381, descriptorIndex := 276, attributes := #[] }])
  fields := #[{ name := "MIN_VALUE", type := .long, accessFlags := 25, slot := 0, constantValue := 0 }, { name := "MAX_VALUE", type := .long, accessFlags := 25, slot := 1, constantValue := 0 }, { name := "TYPE", type := (.object "java/lang/Class"), accessFlags := 25, slot := 2, constantValue := 0 }, { name := "value", type := .long, accessFlags := 18, slot := 0, constantValue := 0 }, { name := "SIZE", type := .int, accessFlags := 25, slot := 3, constantValue := 0 }, { name := "BYTES", type := .int, accessFlags := 25, slot := 4, constantValue := 0 }, { name := "serialVersionUID", type := .long, accessFlags := 26, slot := 5, constantValue := 0 }]
  methods := #[k11m0]
  instanceTypes := #[.long]
  staticTypes := #[.long, .long, (.object "java/lang/Class"), .int, .int, .long]
  resolved := Array.replicate 524 none
  statics := none }

def pool12 : Array CpInfo := pool [(1, .class_ 2), (0, u "java/lang/Integer"), (16, u "digits"), (0, u "[C"), (32, u "numberOfLeadingZeros"), (0, u "(I)I"), (30, u "DigitOnes"), (0, u "[B"), (2, u "DigitTens"), (99, .class_ 190), (0, u "java/lang/Integer$IntegerCache"), (3, u "I"), (8, .class_ 204), (0, u "java/lang/Number"), (2, u "value"), (56, .integer 65536), (37, u "TYPE"), (0, u "Ljava/lang/Class;"), (0, .class_ 305), (0, u "java/lang/Comparable"), (0, .class_ 307), (0, u "java/lang/constant/Constable"), (0, .class_ 309), (0, u "java/lang/constant/ConstantDesc"), (0, u "MIN_VALUE"), (1, u "MAX_VALUE"), (3, u "SIZE"), (1, u "BYTES"), (1, u "serialVersionUID"), (0, u "J")] 131

def k12c0 : Code := { maxStack := 3, maxLocals := 2, code := jdk_33_method_47_code, exceptionTable := #[], attributes := #[] }
def k12m0 : Method := { name := "numberOfLeadingZeros", desc := "(I)I", sig := { parameters := [.int], returnType := some .int }, accessFlags := 9, code := some k12c0 }
/-- java/lang/Integer -/
def k12 : Class := { plain "java/lang/Integer" (some 10) with
  accessFlags := 49
  interfaces := #[4, 6, 7]
  cf := some (fileOf pool12 1 #[.nestMembers #[189]] #[{ accessFlags := 9, nameIndex := 53, descriptorIndex := 54, attributes := #[] }] 49 203 #[304, 306, 308] #[{ accessFlags := 25, nameIndex := 310, descriptorIndex := 194, attributes := #[] }, { accessFlags := 25, nameIndex := 312, descriptorIndex := 194, attributes := #[] }, { accessFlags := 25, nameIndex := 302, descriptorIndex := 303, attributes := #[] }, { accessFlags := 24, nameIndex := 19, descriptorIndex := 20, attributes := #[] }, { accessFlags := 24, nameIndex := 89, descriptorIndex := 86, attributes := #[] }, { accessFlags := 24, nameIndex := 85, descriptorIndex := 86, attributes := #[] }, { accessFlags := 18, nameIndex := 207, descriptorIndex := 194, attributes := #[] }, { accessFlags := 25, nameIndex := 316, descriptorIndex := 194, attributes := #[] }, { accessFlags := 25, nameIndex := 318, descriptorIndex := 194, attributes := #[] }, { accessFlags := 26, nameIndex := 320, descriptorIndex := 321, attributes := #[] }])
  fields := #[{ name := "MIN_VALUE", type := .int, accessFlags := 25, slot := 0, constantValue := 0 }, { name := "MAX_VALUE", type := .int, accessFlags := 25, slot := 1, constantValue := 0 }, { name := "TYPE", type := (.object "java/lang/Class"), accessFlags := 25, slot := 2, constantValue := 0 }, { name := "digits", type := (.array .char), accessFlags := 24, slot := 3, constantValue := 0 }, { name := "DigitTens", type := (.array .byte), accessFlags := 24, slot := 4, constantValue := 0 }, { name := "DigitOnes", type := (.array .byte), accessFlags := 24, slot := 5, constantValue := 0 }, { name := "value", type := .int, accessFlags := 18, slot := 0, constantValue := 0 }, { name := "SIZE", type := .int, accessFlags := 25, slot := 6, constantValue := 0 }, { name := "BYTES", type := .int, accessFlags := 25, slot := 7, constantValue := 0 }, { name := "serialVersionUID", type := .long, accessFlags := 26, slot := 8, constantValue := 0 }]
  methods := #[k12m0]
  instanceTypes := #[.int]
  staticTypes := #[.int, .int, (.object "java/lang/Class"), (.array .char), (.array .byte), (.array .byte), .int, .int, .long]
  resolved := Array.replicate 453 none
  statics := none }

def pool13 : Array CpInfo := pool [(1, .class_ 2), (0, u "java/lang/Math"), (1, .class_ 6), (1, u "java/lang/Object"), (0, u "<init>"), (0, u "()V"), (89, .class_ 100), (1, u "java/lang/Math$RandomNumberGeneratorHolder"), (71, u "negativeZeroFloatBits"), (0, u "J"), (2, u "negativeZeroDoubleBits"), (21, u "max"), (46, u "$assertionsDisabled"), (0, u "Z"), (88, u "(II)I"), (2, u "twoToTheDoubleScaleDown"), (0, u "D"), (4, u "twoToTheDoubleScaleUp"), (9, u "E"), (3, u "PI"), (2, u "TAU"), (2, u "DEGREES_TO_RADIANS"), (0, u "RADIANS_TO_DEGREES")] 94

def k13m0 : Method := { name := "<init>", desc := "()V", sig := { parameters := [], returnType := none }, accessFlags := 2, code := none }
def k13c1 : Code := { maxStack := 2, maxLocals := 2, code := jdk_29_method_65_code, exceptionTable := #[], attributes := #[] }
def k13m1 : Method := { name := "max", desc := "(II)I", sig := { parameters := [.int, .int], returnType := some .int }, accessFlags := 9, code := some k13c1 }
/-- java/lang/Math -/
def k13 : Class := { plain "java/lang/Math" (some 0) with
  accessFlags := 49
  interfaces := #[]
  cf := some (fileOf pool13 1 #[.nestMembers #[98]] #[{ accessFlags := 2, nameIndex := 7, descriptorIndex := 8, attributes := #[] }, { accessFlags := 9, nameIndex := 198, descriptorIndex := 335, attributes := #[] }] 49 4 #[] #[{ accessFlags := 25, nameIndex := 354, descriptorIndex := 339, attributes := #[] }, { accessFlags := 25, nameIndex := 358, descriptorIndex := 339, attributes := #[] }, { accessFlags := 25, nameIndex := 361, descriptorIndex := 339, attributes := #[] }, { accessFlags := 26, nameIndex := 364, descriptorIndex := 339, attributes := #[] }, { accessFlags := 26, nameIndex := 365, descriptorIndex := 339, attributes := #[] }, { accessFlags := 26, nameIndex := 172, descriptorIndex := 173, attributes := #[] }, { accessFlags := 26, nameIndex := 176, descriptorIndex := 173, attributes := #[] }, { accessFlags := 8, nameIndex := 344, descriptorIndex := 339, attributes := #[] }, { accessFlags := 8, nameIndex := 338, descriptorIndex := 339, attributes := #[] }, { accessFlags := 4120, nameIndex := 245, descriptorIndex := 246, attributes := #[] }])
  fields := #[{ name := "E", type := .double, accessFlags := 25, slot := 0, constantValue := 0 }, { name := "PI", type := .double, accessFlags := 25, slot := 1, constantValue := 0 }, { name := "TAU", type := .double, accessFlags := 25, slot := 2, constantValue := 0 }, { name := "DEGREES_TO_RADIANS", type := .double, accessFlags := 26, slot := 3, constantValue := 0 }, { name := "RADIANS_TO_DEGREES", type := .double, accessFlags := 26, slot := 4, constantValue := 0 }, { name := "negativeZeroFloatBits", type := .long, accessFlags := 26, slot := 5, constantValue := 0 }, { name := "negativeZeroDoubleBits", type := .long, accessFlags := 26, slot := 6, constantValue := 0 }, { name := "twoToTheDoubleScaleUp", type := .double, accessFlags := 8, slot := 7, constantValue := 0 }, { name := "twoToTheDoubleScaleDown", type := .double, accessFlags := 8, slot := 8, constantValue := 0 }, { name := "$assertionsDisabled", type := .boolean, accessFlags := 4120, slot := 9, constantValue := 0 }]
  methods := #[k13m0, k13m1]
  instanceTypes := #[]
  staticTypes := #[.double, .double, .double, .double, .double, .long, .long, .double, .double, .boolean]
  resolved := Array.replicate 460 none
  statics := none }

def pool14 : Array CpInfo := pool [(1, u "java/lang/Cloneable"), (0, .class_ 1), (0, u "java/lang/Object"), (0, .class_ 3)] 3

/-- java/lang/Cloneable -/
def k14 : Class := { plain "java/lang/Cloneable" (some 0) with
  accessFlags := 1537
  interfaces := #[]
  cf := some (fileOf pool14 2 #[] #[] 1537 4 #[] #[])
  fields := #[]
  methods := #[]
  instanceTypes := #[]
  staticTypes := #[]
  resolved := Array.replicate 8 none
  statics := none }

/-- the primitive byte -/
def k15 : Class := { plain "byte" none with kind := .primitive 'B', accessFlags := 0x411 }
/-- [B -/
def k16 : Class := { plain "[B" (some 0) with kind := .array 15 .byte, interfaces := #[14, 3], accessFlags := 1041 }

/-- the primitive int -/
def k17 : Class := { plain "int" none with kind := .primitive 'I', accessFlags := 0x411 }
/-- [I -/
def k18 : Class := { plain "[I" (some 0) with kind := .array 17 .int, interfaces := #[14, 3], accessFlags := 1041 }

def heap : Heap := #[]
def classes : Array Class := #[k0, k1, k2, k3, k4, k5, k6, k7, k8, k9, k10, k11, k12, k13, k14, k15, k16, k17, k18]
def interned : List (Array UInt16 × Addr) := []
def slotsUsed : Nat := 0
def theMethod : MethodId := ⟨1, 4⟩
def args0 : Array Value := #[.long 5, .long 3, .long 7, .int 1, .int 3, .int 4]
def aboutOver (below : List Frame) : State where
  vm := { classes := classes, interned := interned.toArray }
  heap := heap
  slotsUsed := slotsUsed
  threads := #[{ frames := .invoking theMethod args0 :: below }]
def below0 : List Frame := [.native { method := ⟨0, 0⟩, args := #[] }]
def about1 : State := aboutOver below0
def p0 : Program := .bare "" "" ""
def e0 : Env := launch0.env 0 0 0
theorem w_frames : about1.frames = Frame.invoking theMethod args0 :: below0 := rfl
set_option maxRecDepth 65536 in
theorem w_args : argsFit about1.vm theMethod args0 = true := by decide +kernel
set_option maxRecDepth 65536 in
theorem w_heap : heapFits about1 = true := by decide +kernel
set_option maxRecDepth 65536 in
theorem w_runnable : about1.curStatus? = some .runnable := by decide +kernel
set_option maxRecDepth 65536 in
theorem w_alone : about1.alone = true := by decide +kernel
set_option maxRecDepth 65536 in
theorem w_named : about1.methodNamed? x = some theMethod := by decide +kernel
set_option maxRecDepth 65536 in
theorem w_hears : about1.hears theMethod below0 = true := by decide +kernel
set_option maxRecDepth 65536 in
theorem w_ripe : about1.ripe theMethod args0 below0 = true := by decide +kernel
theorem w_running : about1.status = .running := rfl
set_option maxRecDepth 65536 in
theorem w_room : about1.hasRoom e0.platform room_1 = true :=
  launch0.hasRoom_least _ room_1 (by decide +kernel) (by decide +kernel) (by decide +kernel) (by decide +kernel) (by decide +kernel) (by decide +kernel)
theorem allAtoms_all (ts : List Jvm.Cond) (a : Array Jvm.Value) (st : Jvm.State) : (allAtoms ts).before a st = ts.all (fun c => c.before a st) := by
  induction ts with
  | nil => rfl
  | cons c t ih =>
    show (Jvm.Cond.and c (allAtoms t)).before a st = _
    rw [Jvm.Cond.before_and, ih, List.all_cons]
def words1 : List Jvm.Cond := Jvm.Cond.code x code maxLocals ret :: tables_1
/-- a 'code' word, met by the world's own term for the bytes: nothing is compared byte by byte -/
theorem code_word {y : MethodName} {bytes : ByteArray} {mx : Nat} {rt : Option FieldType} {a : Array Value} {s : State} {m : MethodId} {meth : Method} {c : Code} (h1 : s.methodNamed? y = some m) (h2 : s.vm.method? m = some meth) (h3 : meth.code = some c) (h4 : c.code = bytes)
    (h5 : (c.maxLocals == mx && c.exceptionTable.isEmpty && decide (c.maxStack ≤ mostOperands) && decide (meth.sig.returnType = rt) && !meth.locks && decide (parseMethodDescriptor y.desc = some meth.sig)) = true) : (Jvm.Cond.code y bytes mx rt).before a s = true := by
  simp only [Bool.and_eq_true, beq_iff_eq, Bool.not_eq_true', decide_eq_true_eq] at h5
  obtain ⟨⟨⟨⟨⟨g1, g2⟩, g3⟩, g4⟩, g5⟩, g6⟩ := h5
  simp [Cond.before, Cond.holds, Cond.value, h1, h2, h3, h4, g1, g2, g3, g4, g5, g6]
def isCode : Jvm.Cond → Bool
  | .code _ _ _ _ => true
  | _ => false
theorem all_split {L : List Jvm.Cond} {P : Jvm.Cond → Bool} (h1 : L.all (fun c => isCode c || P c) = true) (h2 : ∀ c ∈ L.filter isCode, P c = true) : L.all P = true := by
  refine List.all_eq_true.mpr fun c hc => ?_
  have h := List.all_eq_true.mp h1 c hc
  rcases Bool.eq_false_or_eq_true (isCode c) with hi | hi
  · exact h2 c (List.mem_filter.mpr ⟨hc, hi⟩)
  · simpa [hi] using h
set_option maxRecDepth 65536 in
theorem w_c0 : (Jvm.Cond.code x code maxLocals ret).before args0 about1 = true := code_word (m := ⟨1, 4⟩) (meth := k1m4) (c := k1c4) (by decide +kernel) rfl rfl rfl (by decide +kernel)
set_option maxRecDepth 65536 in
theorem w_c1 : (Jvm.Cond.code ({ cls := "com/example/highwater/highwater/sweep/QueueLayoutBeginPinLaw", name := "build", desc := "(JI)[B" } : Jvm.MethodName) method_4_code (7 : Nat) (Option.some (Jvm.ClassFile.FieldType.array Jvm.ClassFile.FieldType.byte))).before args0 about1 = true := code_word (m := ⟨1, 3⟩) (meth := k1m3) (c := k1c3) (by decide +kernel) rfl rfl rfl (by decide +kernel)
set_option maxRecDepth 65536 in
theorem w_c2 : (Jvm.Cond.code ({ cls := "com/example/highwater/highwater/sweep/QueueLayoutBeginPinLaw", name := "tableLen", desc := "(I)I" } : Jvm.MethodName) method_2_code (1 : Nat) (Option.some Jvm.ClassFile.FieldType.int)).before args0 about1 = true := code_word (m := ⟨1, 1⟩) (meth := k1m1) (c := k1c1) (by decide +kernel) rfl rfl rfl (by decide +kernel)
set_option maxRecDepth 65536 in
theorem w_c3 : (Jvm.Cond.code ({ cls := "com/example/highwater/highwater/sweep/QueueLayoutBeginPinLaw", name := "rowLen", desc := "(I)I" } : Jvm.MethodName) method_3_code (2 : Nat) (Option.some Jvm.ClassFile.FieldType.int)).before args0 about1 = true := code_word (m := ⟨1, 2⟩) (meth := k1m2) (c := k1c2) (by decide +kernel) rfl rfl rfl (by decide +kernel)
set_option maxRecDepth 65536 in
theorem w_c4 : (Jvm.Cond.code ({ cls := "com/example/highwater/highwater/sweep/QueueLayout$RunReader", name := "<init>", desc := "()V" } : Jvm.MethodName) prog_79_method_1_code (1 : Nat) (Option.none : Option Jvm.ClassFile.FieldType)).before args0 about1 = true := code_word (m := ⟨2, 0⟩) (meth := k2m0) (c := k2c0) (by decide +kernel) rfl rfl rfl (by decide +kernel)
set_option maxRecDepth 65536 in
theorem w_c5 : (Jvm.Cond.code ({ cls := "java/lang/Object", name := "<init>", desc := "()V" } : Jvm.MethodName) object_method_1_code (1 : Nat) (Option.none : Option Jvm.ClassFile.FieldType)).before args0 about1 = true := code_word (m := ⟨0, 0⟩) (meth := k0m0) (c := k0c0) (by decide +kernel) rfl rfl rfl (by decide +kernel)
set_option maxRecDepth 65536 in
theorem w_c6 : (Jvm.Cond.code ({ cls := "com/example/highwater/highwater/sweep/QueueLayout$RunReader", name := "begin", desc := "(J[B)V" } : Jvm.MethodName) prog_79_method_2_code (4 : Nat) (Option.none : Option Jvm.ClassFile.FieldType)).before args0 about1 = true := code_word (m := ⟨2, 1⟩) (meth := k2m1) (c := k2c1) (by decide +kernel) rfl rfl rfl (by decide +kernel)
set_option maxRecDepth 65536 in
theorem w_c7 : (Jvm.Cond.code ({ cls := "com/example/highwater/highwater/sweep/QueueLayout$RunReader", name := "next", desc := "()Z" } : Jvm.MethodName) prog_79_method_3_code (2 : Nat) (Option.some Jvm.ClassFile.FieldType.boolean)).before args0 about1 = true := code_word (m := ⟨2, 2⟩) (meth := k2m2) (c := k2c2) (by decide +kernel) rfl rfl rfl (by decide +kernel)
set_option maxRecDepth 65536 in
theorem w_c8 : (Jvm.Cond.code ({ cls := "com/example/highwater/highwater/sweep/QueueLayout$RunReader", name := "part", desc := "()I" } : Jvm.MethodName) prog_79_method_16_code (3 : Nat) (Option.some Jvm.ClassFile.FieldType.int)).before args0 about1 = true := code_word (m := ⟨2, 8⟩) (meth := k2m8) (c := k2c8) (by decide +kernel) rfl rfl rfl (by decide +kernel)
set_option maxRecDepth 65536 in
theorem w_c9 : (Jvm.Cond.code ({ cls := "com/example/highwater/highwater/store/VarLong", name := "read", desc := "([BIILjava/lang/String;)J" } : Jvm.MethodName) prog_62_method_6_code (6 : Nat) (Option.some Jvm.ClassFile.FieldType.long)).before args0 about1 = true := code_word (m := ⟨9, 1⟩) (meth := k9m1) (c := k9c1) (by decide +kernel) rfl rfl rfl (by decide +kernel)
set_option maxRecDepth 65536 in
theorem w_c10 : (Jvm.Cond.code ({ cls := "com/example/highwater/highwater/store/VarLong", name := "length", desc := "(J)I" } : Jvm.MethodName) prog_62_method_7_code (3 : Nat) (Option.some Jvm.ClassFile.FieldType.int)).before args0 about1 = true := code_word (m := ⟨9, 2⟩) (meth := k9m2) (c := k9c2) (by decide +kernel) rfl rfl rfl (by decide +kernel)
set_option maxRecDepth 65536 in
theorem w_c11 : (Jvm.Cond.code ({ cls := "java/lang/Long", name := "numberOfLeadingZeros", desc := "(J)I" } : Jvm.MethodName) jdk_35_method_48_code (3 : Nat) (Option.some Jvm.ClassFile.FieldType.int)).before args0 about1 = true := code_word (m := ⟨11, 0⟩) (meth := k11m0) (c := k11c0) (by decide +kernel) rfl rfl rfl (by decide +kernel)
set_option maxRecDepth 65536 in
theorem w_c12 : (Jvm.Cond.code ({ cls := "java/lang/Integer", name := "numberOfLeadingZeros", desc := "(I)I" } : Jvm.MethodName) jdk_33_method_47_code (2 : Nat) (Option.some Jvm.ClassFile.FieldType.int)).before args0 about1 = true := code_word (m := ⟨12, 0⟩) (meth := k12m0) (c := k12c0) (by decide +kernel) rfl rfl rfl (by decide +kernel)
set_option maxRecDepth 65536 in
theorem w_c13 : (Jvm.Cond.code ({ cls := "java/lang/Math", name := "max", desc := "(II)I" } : Jvm.MethodName) jdk_29_method_65_code (2 : Nat) (Option.some Jvm.ClassFile.FieldType.int)).before args0 about1 = true := code_word (m := ⟨13, 1⟩) (meth := k13m1) (c := k13c1) (by decide +kernel) rfl rfl rfl (by decide +kernel)
set_option maxRecDepth 65536 in
theorem w_c14 : (Jvm.Cond.code ({ cls := "com/example/highwater/highwater/sweep/QueueLayout$RunReader", name := "run", desc := "()[B" } : Jvm.MethodName) prog_79_method_5_code (1 : Nat) (Option.some (Jvm.ClassFile.FieldType.array Jvm.ClassFile.FieldType.byte))).before args0 about1 = true := code_word (m := ⟨2, 3⟩) (meth := k2m3) (c := k2c3) (by decide +kernel) rfl rfl rfl (by decide +kernel)
set_option maxRecDepth 65536 in
theorem w_c15 : (Jvm.Cond.code ({ cls := "com/example/highwater/highwater/sweep/QueueLayout$RunReader", name := "tableAt", desc := "()I" } : Jvm.MethodName) prog_79_method_8_code (1 : Nat) (Option.some Jvm.ClassFile.FieldType.int)).before args0 about1 = true := code_word (m := ⟨2, 5⟩) (meth := k2m5) (c := k2c5) (by decide +kernel) rfl rfl rfl (by decide +kernel)
set_option maxRecDepth 65536 in
theorem w_c16 : (Jvm.Cond.code ({ cls := "com/example/highwater/highwater/sweep/QueueLayout$RunReader", name := "rowAt", desc := "()I" } : Jvm.MethodName) prog_79_method_10_code (1 : Nat) (Option.some Jvm.ClassFile.FieldType.int)).before args0 about1 = true := code_word (m := ⟨2, 6⟩) (meth := k2m6) (c := k2c6) (by decide +kernel) rfl rfl rfl (by decide +kernel)
set_option maxRecDepth 65536 in
theorem w_c17 : (Jvm.Cond.code ({ cls := "com/example/highwater/highwater/sweep/QueueLayout$RunReader", name := "columnAt", desc := "()I" } : Jvm.MethodName) prog_79_method_12_code (1 : Nat) (Option.some Jvm.ClassFile.FieldType.int)).before args0 about1 = true := code_word (m := ⟨2, 7⟩) (meth := k2m7) (c := k2c7) (by decide +kernel) rfl rfl rfl (by decide +kernel)
set_option maxRecDepth 65536 in
theorem w_c18 : (Jvm.Cond.code ({ cls := "com/example/highwater/highwater/sweep/QueueLayout$RunReader", name := "deletion", desc := "()Z" } : Jvm.MethodName) prog_79_method_7_code (1 : Nat) (Option.some Jvm.ClassFile.FieldType.boolean)).before args0 about1 = true := code_word (m := ⟨2, 4⟩) (meth := k2m4) (c := k2c4) (by decide +kernel) rfl rfl rfl (by decide +kernel)
def codes1 : List Jvm.Cond := [Jvm.Cond.code x code maxLocals ret, Jvm.Cond.code ({ cls := "com/example/highwater/highwater/sweep/QueueLayoutBeginPinLaw", name := "build", desc := "(JI)[B" } : Jvm.MethodName) method_4_code (7 : Nat) (Option.some (Jvm.ClassFile.FieldType.array Jvm.ClassFile.FieldType.byte)), Jvm.Cond.code ({ cls := "com/example/highwater/highwater/sweep/QueueLayoutBeginPinLaw", name := "tableLen", desc := "(I)I" } : Jvm.MethodName) method_2_code (1 : Nat) (Option.some Jvm.ClassFile.FieldType.int), Jvm.Cond.code ({ cls := "com/example/highwater/highwater/sweep/QueueLayoutBeginPinLaw", name := "rowLen", desc := "(I)I" } : Jvm.MethodName) method_3_code (2 : Nat) (Option.some Jvm.ClassFile.FieldType.int), Jvm.Cond.code ({ cls := "com/example/highwater/highwater/sweep/QueueLayout$RunReader", name := "<init>", desc := "()V" } : Jvm.MethodName) prog_79_method_1_code (1 : Nat) (Option.none : Option Jvm.ClassFile.FieldType), Jvm.Cond.code ({ cls := "java/lang/Object", name := "<init>", desc := "()V" } : Jvm.MethodName) object_method_1_code (1 : Nat) (Option.none : Option Jvm.ClassFile.FieldType), Jvm.Cond.code ({ cls := "com/example/highwater/highwater/sweep/QueueLayout$RunReader", name := "begin", desc := "(J[B)V" } : Jvm.MethodName) prog_79_method_2_code (4 : Nat) (Option.none : Option Jvm.ClassFile.FieldType), Jvm.Cond.code ({ cls := "com/example/highwater/highwater/sweep/QueueLayout$RunReader", name := "next", desc := "()Z" } : Jvm.MethodName) prog_79_method_3_code (2 : Nat) (Option.some Jvm.ClassFile.FieldType.boolean), Jvm.Cond.code ({ cls := "com/example/highwater/highwater/sweep/QueueLayout$RunReader", name := "part", desc := "()I" } : Jvm.MethodName) prog_79_method_16_code (3 : Nat) (Option.some Jvm.ClassFile.FieldType.int), Jvm.Cond.code ({ cls := "com/example/highwater/highwater/store/VarLong", name := "read", desc := "([BIILjava/lang/String;)J" } : Jvm.MethodName) prog_62_method_6_code (6 : Nat) (Option.some Jvm.ClassFile.FieldType.long), Jvm.Cond.code ({ cls := "com/example/highwater/highwater/store/VarLong", name := "length", desc := "(J)I" } : Jvm.MethodName) prog_62_method_7_code (3 : Nat) (Option.some Jvm.ClassFile.FieldType.int), Jvm.Cond.code ({ cls := "java/lang/Long", name := "numberOfLeadingZeros", desc := "(J)I" } : Jvm.MethodName) jdk_35_method_48_code (3 : Nat) (Option.some Jvm.ClassFile.FieldType.int), Jvm.Cond.code ({ cls := "java/lang/Integer", name := "numberOfLeadingZeros", desc := "(I)I" } : Jvm.MethodName) jdk_33_method_47_code (2 : Nat) (Option.some Jvm.ClassFile.FieldType.int), Jvm.Cond.code ({ cls := "java/lang/Math", name := "max", desc := "(II)I" } : Jvm.MethodName) jdk_29_method_65_code (2 : Nat) (Option.some Jvm.ClassFile.FieldType.int), Jvm.Cond.code ({ cls := "com/example/highwater/highwater/sweep/QueueLayout$RunReader", name := "run", desc := "()[B" } : Jvm.MethodName) prog_79_method_5_code (1 : Nat) (Option.some (Jvm.ClassFile.FieldType.array Jvm.ClassFile.FieldType.byte)), Jvm.Cond.code ({ cls := "com/example/highwater/highwater/sweep/QueueLayout$RunReader", name := "tableAt", desc := "()I" } : Jvm.MethodName) prog_79_method_8_code (1 : Nat) (Option.some Jvm.ClassFile.FieldType.int), Jvm.Cond.code ({ cls := "com/example/highwater/highwater/sweep/QueueLayout$RunReader", name := "rowAt", desc := "()I" } : Jvm.MethodName) prog_79_method_10_code (1 : Nat) (Option.some Jvm.ClassFile.FieldType.int), Jvm.Cond.code ({ cls := "com/example/highwater/highwater/sweep/QueueLayout$RunReader", name := "columnAt", desc := "()I" } : Jvm.MethodName) prog_79_method_12_code (1 : Nat) (Option.some Jvm.ClassFile.FieldType.int), Jvm.Cond.code ({ cls := "com/example/highwater/highwater/sweep/QueueLayout$RunReader", name := "deletion", desc := "()Z" } : Jvm.MethodName) prog_79_method_7_code (1 : Nat) (Option.some Jvm.ClassFile.FieldType.boolean)]
set_option maxRecDepth 65536 in
theorem codes_eq : words1.filter isCode = codes1 := rfl
theorem w_codes : ∀ c ∈ words1.filter isCode, c.before args0 about1 = true := by
  rw [codes_eq]
  intro c hc
  simp only [codes1, List.mem_cons, List.not_mem_nil, or_false] at hc
  rcases hc with rfl | rfl | rfl | rfl | rfl | rfl | rfl | rfl | rfl | rfl | rfl | rfl | rfl | rfl | rfl | rfl | rfl | rfl | rfl
  · exact w_c0
  · exact w_c1
  · exact w_c2
  · exact w_c3
  · exact w_c4
  · exact w_c5
  · exact w_c6
  · exact w_c7
  · exact w_c8
  · exact w_c9
  · exact w_c10
  · exact w_c11
  · exact w_c12
  · exact w_c13
  · exact w_c14
  · exact w_c15
  · exact w_c16
  · exact w_c17
  · exact w_c18
set_option maxRecDepth 65536 in
theorem w_t1 : (words1.take 24).all (fun c => isCode c || c.before args0 about1) = true := by decide +kernel
set_option maxRecDepth 65536 in
theorem w_t2 : ((words1.drop 24).take 24).all (fun c => isCode c || c.before args0 about1) = true := by decide +kernel
set_option maxRecDepth 65536 in
theorem w_t3 : (((words1.drop 24).drop 24).take 24).all (fun c => isCode c || c.before args0 about1) = true := by decide +kernel
set_option maxRecDepth 65536 in
theorem w_t4 : ((((words1.drop 24).drop 24).drop 24).take 24).all (fun c => isCode c || c.before args0 about1) = true := by decide +kernel
set_option maxRecDepth 65536 in
theorem w_t5 : ((((words1.drop 24).drop 24).drop 24).drop 24).all (fun c => isCode c || c.before args0 about1) = true := by decide +kernel
theorem w_tables : (allAtoms (Jvm.Cond.code x code maxLocals ret :: tables_1)).before args0 about1 = true := by
  rw [allAtoms_all]
  show words1.all (fun c => c.before args0 about1) = true
  refine all_split ?_ w_codes
  rw [← List.take_append_drop 24 words1, List.all_append, w_t1, ← List.take_append_drop 24 (words1.drop 24), List.all_append, w_t2, ← List.take_append_drop 24 ((words1.drop 24).drop 24), List.all_append, w_t3, ← List.take_append_drop 24 (((words1.drop 24).drop 24).drop 24), List.all_append, w_t4, w_t5]
  rfl
set_option maxRecDepth 65536 in
theorem w_case : (Jvm.Cond.and given_1 narrow_1).before args0 about1 = true := by decide +kernel
theorem w_applies : (headSpec (Jvm.Cond.code x code maxLocals ret :: tables_1) room_1).applies x e0.platform about1 = true :=
  (Spec.applies_iff w_frames).mpr ⟨w_running, w_runnable, w_alone, w_named, w_hears, w_ripe, w_room, w_tables⟩
theorem atStart : AtStart classFile x code maxLocals ret World_1 tables_1 room_1 Calls_1 rest_1 Pre_1 launch0 p0 e0 about1 theMethod args0 below0 :=
  ⟨lists_1, trivial, launch0.admits_env _ _ _, launch0.least_env, fairChoices_fair.cas, fairChoices_fair.clock, w_frames, w_args, w_heap, w_applies, trivial, trivial, w_case⟩
end start1
theorem witness_1 : WitnessClaimed_1 := ⟨start1.p0, start1.e0, start1.about1, start1.theMethod, start1.args0, start1.below0, start1.atStart⟩
end Jvm.Pilot.@@N@@
