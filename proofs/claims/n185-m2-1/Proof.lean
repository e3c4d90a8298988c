import JvmDerived
import JvmDerived.Pilot.@@N@@Statement
import JvmDerived.Pilot.@@N@@Code
set_option linter.unusedVariables false
set_option linter.unusedSimpArgs false
namespace Jvm.Pilot.@@N@@
open Jvm Jvm.ClassFile Sem Op Lib Jvm.Free Jvm.Stand Jvm.LawKit Jvm.RoadKit Bundle Jvm.Pilot.@@N@@.Jvm.D
section Own
variable {p : Program} {l : Launch} {e : Env} {R : Room} {s : State} {m : MethodId} {args : Array Value} {below : List Frame} {meth : Method} {c : Code} {T : State} {locs : List Loc} {cells slots : Nat}
def Goes (p : Program) (e : Env) (below : List Frame) (P : State → Outcome → Prop) (A : State) : Prop :=
  ∃ s₂ o, Steps p.tables e below A s₂ ∧ s₂.status = .running ∧ Ended s₂ below o ∧ P s₂ o
theorem Goes.via {P : State → Outcome → Prop} {A B : State} (h : ∀ t, Steps p.tables e below B t → Steps p.tables e below A t) (k : Goes p e below P B) : Goes p e below P A := by
  obtain ⟨s₂, o, h1, h2⟩ := k
  exact ⟨s₂, o, h _ h1, h2⟩
theorem own_join {P : State → Outcome → Prop} {A B : State} (h : Goes p e below P B → Goes p e below P A) (k : Goes p e below P B) : Goes p e below P A := h k
theorem Goes.cast {P : State → Outcome → Prop} {g g' : JFrame} (q : g = g') (k : Goes p e below P (T.setTop g')) : Goes p e below P (T.setTop g) := q ▸ k
theorem own_out (X : Stand p l e R s m args below meth c T locs cells slots) {v : Option Value} (hv : meth.sig.returnType = none → v = none) (hlocks : meth.locks = false) {A : State} {Q : Option Value → Heap → List Loc → Prop} {kc ks : Nat}
    (st : ∀ fs, (∀ (f : JFrame) (acts : List Action), f.method = m → f.locked = none → f.entered = [] → (doReturn e (T.setTop f) acts v).1 = T.setFrames fs) → Steps p.tables e below A (T.setFrames fs))
    (hQ : Q v T.heap locs) (hc : cells ≤ kc) (hs : slots ≤ ks) : Goes p e below (fun s₂ o => ∃ v L, o = .returned v ∧ Q v s₂.heap L ∧ FrameEnd s o s₂ L kc ks) A := by
  obtain ⟨fs, hr, hrun, hended, hW, hsame⟩ := X.leave (v := v) hv hlocks
  exact ⟨_, _, st fs hr, hrun, hended, v, locs, rfl, hQ, ⟨_, rfl⟩, hW, hsame.mono hc hs⟩
end Own
theorem own_nar (x : Int32) : nar .byte (x.toInt8.toInt32) = x.toInt8.toInt32 := by
  show (x.toInt8.toInt32).toInt8.toInt32 = x.toInt8.toInt32
  rw [Int8.toInt8_toInt32]
theorem own_nv {u x : Int32} (h : x.toInt8.toInt32 = u) : nar .byte u = u := by subst h; exact own_nar _
theorem d1_0 : decode method_3_code 0 = .ok (.iload_n 0, 1) := by decide +kernel
theorem d1_1 : decode method_3_code 1 = .ok (.iconst 1, 1) := by decide +kernel
theorem d1_2 : decode method_3_code 2 = .ok (.if_icmp .ne 12, 3) := by decide +kernel
theorem d1_5 : decode method_3_code 5 = .ok (.iconst 1, 1) := by decide +kernel
theorem d1_6 : decode method_3_code 6 = .ok (.newarray .byte, 2) := by decide +kernel
theorem d1_8 : decode method_3_code 8 = .ok (.dup, 1) := by decide +kernel
theorem d1_9 : decode method_3_code 9 = .ok (.iconst 0, 1) := by decide +kernel
theorem d1_10 : decode method_3_code 10 = .ok (.iload 4, 2) := by decide +kernel
theorem d1_12 : decode method_3_code 12 = .ok (.bastore, 1) := by decide +kernel
theorem d1_13 : decode method_3_code 13 = .ok (.areturn, 1) := by decide +kernel
theorem pn_com_example_highwater_highwater_embedded_KeysPrefixEndPinLaw : plainName "com/example/highwater/highwater/embedded/KeysPrefixEndPinLaw" = true := by first | (simp [plainName, overriddenIn]; done) | decide +kernel
theorem ef_1_1 (m : MethodId) (x0 : Int32) (x1 : Int32) (x2 : Int32) (x3 : Int32) (x4 : Int32) : entryFrame m #[(.int x0), (.int x1), (.int x2), (.int x3), (.int x4)] 5 = mkF m 0 #[.val (.int x0), .val (.int x1), .val (.int x2), .val (.int x3), .val (.int x4)] [] := by first | (simp [entryFrame, mkF, argsToLocals, Value.category]; done) | rfl
def Q1_1 (Z : State) (p2 : Int32) (p3 : Int32) (p4 : Int32) (p5 : Int32) (h0 : Heap) (n0 : Nat) (v : Option Value) (h : Heap) (L : List Loc) : Prop := v = some (.ref h0.size) ∧ Fr n0 L ∧ Keep h0 h [] ∧ Exa Z h h0.size "[B" ∧ ∃ k, Arv Z h h0.size k .byte (1 : Int32) [(.int (nar .byte p5))] (.int (0 : Int32))
set_option maxRecDepth 65536 in
set_option maxHeartbeats 40000000 in
theorem rm1_1 (l : Launch) (Z : State) (a0 : Array Value) (hw : ∀ d ∈ tables_1, d.before a0 Z = true) (ws : List Jvm.Cond) (p2 : Int32) (p3 : Int32) (p4 : Int32) (p5 : Int32) (h0 : Heap) (n0 : Nat) (Z0 : n0 ≤ h0.size)  :
    MetFree l (⟨"com/example/highwater/highwater/embedded/KeysPrefixEndPinLaw", "make", "(IBBBB)[B"⟩ : MethodName) (head1 (Jvm.Cond.code (⟨"com/example/highwater/highwater/embedded/KeysPrefixEndPinLaw", "make", "(IBBBB)[B"⟩ : MethodName) method_3_code 5 (some (.array .byte)) :: ws) ({ frames := 0, cells := 1, slots := 1, locals := 0 } : Room)) (fun a U => a = #[(.int (1 : Int32)), (.int p2), (.int p3), (.int p4), (.int p5)] ∧ Z.Warmed39 U.vm ∧ U.heap = h0) (fun _ _ _ _ _ => True) (fun _ U o U' => ∃ v L, o = .returned v ∧ Q1_1 Z p2 p3 p4 p5 h0 n0 v U'.heap L ∧ FrameEnd U o U' L ({ frames := 0, cells := 1, slots := 1, locals := 0 } : Room).cells ({ frames := 0, cells := 1, slots := 1, locals := 0 } : Room).slots) := by
  refine MetFree.of_bodySF (plainFor_of_name pn_com_example_highwater_highwater_embedded_KeysPrefixEndPinLaw) hisR ?_
  intro p e s m args below meth c s₁ Bd hml0 hP hK
  obtain ⟨rfl, hZ, hh⟩ := hP
  have hx := Bd.exec
  have hby := Bd.bytes
  have hml : c.maxLocals = 5 := hml0
  have hown : s.vm.findClass "com/example/highwater/highwater/embedded/KeysPrefixEndPinLaw" = some m.cls := findClass_of_methodNamed Bd.named
  have hnm := (name_of_methodNamed Bd.named Bd.method).1
  have X0 : Stand p l e ({ frames := 0, cells := 1, slots := 1, locals := 0 } : Room) s m #[(.int (1 : Int32)), (.int p2), (.int p3), (.int p4), (.int p5)] below meth c s₁ [] 0 0 := Stand.of_body Bd
  have e0 : s₁.heap = h0 := by rw [← hh, Bd.state]; rfl
  have N0 := Fr.nil n0
  show Goes p e below (fun s₂ o => ∃ v L, o = .returned v ∧ Q1_1 Z p2 p3 p4 p5 h0 n0 v s₂.heap L ∧ FrameEnd s o s₂ L ({ frames := 0, cells := 1, slots := 1, locals := 0 } : Room).cells ({ frames := 0, cells := 1, slots := 1, locals := 0 } : Room).slots) (s₁.setTop (entryFrame m #[(.int (1 : Int32)), (.int p2), (.int p3), (.int p4), (.int p5)] 5))
  refine Goes.cast (ef_1_1 m (1 : Int32) p2 p3 p4 p5) ?_
  have K0 := Keep.refl h0 []
  refine Goes.via (B := s₁.setTop (mkF m 1 #[.val (.int (1 : Int32)), .val (.int p2), .val (.int p3), .val (.int p4), .val (.int p5)] [(.int (1 : Int32))])) (fun t k => XS.iloadN X0.here hx rfl (hb hby d1_0) rfl k) ?_
  refine Goes.via (B := s₁.setTop (mkF m 2 #[.val (.int (1 : Int32)), .val (.int p2), .val (.int p3), .val (.int p4), .val (.int p5)] [(.int (1 : Int32)), (.int (1 : Int32))])) (fun t k => XS.iconst X0.here hx rfl (hb hby d1_1) k) ?_
  refine Goes.via (B := s₁.setTop (mkF m 5 #[.val (.int (1 : Int32)), .val (.int p2), .val (.int p3), .val (.int p4), .val (.int p5)] [])) (fun t k => XS.icmpNo X0.here hx rfl (hb hby d1_2) rfl (teq (by decide : (1 : Int32) = (1 : Int32))).2 k) ?_
  refine Goes.via (B := s₁.setTop (mkF m 6 #[.val (.int (1 : Int32)), .val (.int p2), .val (.int p3), .val (.int p4), .val (.int p5)] [(.int (1 : Int32))])) (fun t k => XS.iconst X0.here hx rfl (hb hby d1_5) k) ?_
  obtain ⟨T1, h1, k1, X1, e1, E1, A1, B1, st1⟩ := newPE X0 hx hZ (hw _ (List.mem_of_getElem? (i := 5) rfl)) e0 (g := (mkF m 6 #[.val (.int (1 : Int32)), .val (.int p2), .val (.int p3), .val (.int p4), .val (.int p5)] [(.int (1 : Int32))])) rfl (hb hby d1_6) rfl (by decide) (cap := 1) (by decide) (by decide) (by decide) (by decide) (ad := "[B") (by decide)
  obtain ⟨b1, g1⟩ : ∃ z, z = h0.size := ⟨_, rfl⟩
  rw [← g1] at A1 st1 B1
  have Vb1 : Arv Z h1 b1 k1 .byte (1 : Int32) [(.int (0 : Int32))] (.int (0 : Int32)) := (Arv.new A1 (by decide)).pad (pad_rep [] (.int (0 : Int32)) 1)
  have g_b1 : n0 ≤ b1 := Nat.le_trans Z0 (Nat.le_of_eq g1.symm)
  have Z1 : n0 ≤ h1.size := Nat.le_trans Z0 E1.1
  have sz_b1 : h0.size ≤ b1 := Nat.le_trans K0.1 (Nat.le_of_eq g1.symm)
  have K1 := K0.ext E1
  refine Goes.via (B := T1.setTop (mkF m 8 #[.val (.int (1 : Int32)), .val (.int p2), .val (.int p3), .val (.int p4), .val (.int p5)] [(.ref b1)])) st1 ?_
  refine Goes.via (B := T1.setTop (mkF m 9 #[.val (.int (1 : Int32)), .val (.int p2), .val (.int p3), .val (.int p4), .val (.int p5)] [(.ref b1), (.ref b1)])) (fun t k => XS.dup X1.here hx rfl (hb hby d1_8) rfl rfl k) ?_
  refine Goes.via (B := T1.setTop (mkF m 10 #[.val (.int (1 : Int32)), .val (.int p2), .val (.int p3), .val (.int p4), .val (.int p5)] [(.int (0 : Int32)), (.ref b1), (.ref b1)])) (fun t k => XS.iconst X1.here hx rfl (hb hby d1_9) k) ?_
  refine Goes.via (B := T1.setTop (mkF m 12 #[.val (.int (1 : Int32)), .val (.int p2), .val (.int p3), .val (.int p4), .val (.int p5)] [(.int p5), (.int (0 : Int32)), (.ref b1), (.ref b1)])) (fun t k => XS.iload X1.here hx rfl (hb hby d1_10) rfl k) ?_
  obtain ⟨cl2, Ar2, q2, S2, M2, H2, G2⟩ := Vb1
  have hin2 : ¬ ((0 : Int32) < 0 ∨ cl2.slots.size ≤ ((0 : Int32)).toNatClampNeg) := inb_of S2 ⟨by decide, by decide⟩
  obtain ⟨T2, h2, X2, e2, W2, st2⟩ := stB X1 hx hZ e1 Ar2 (j := (0 : Int32)) hin2 (g := (mkF m 12 #[.val (.int (1 : Int32)), .val (.int p2), .val (.int p3), .val (.int p4), .val (.int p5)] [(.int p5), (.int (0 : Int32)), (.ref b1), (.ref b1)])) rfl rfl (hb hby d1_12)
  have Vb1_2 := Arv.set Ar2 q2 S2 M2 H2 G2 (fits_nar_byte _) W2 0 rfl (Nat.le_of_ble_eq_true rfl)
  have Eb1_2 := B1.wr W2
  replace Vb1_2 : Arv Z h2 b1 k1 .byte (1 : Int32) [(.int (nar .byte p5))] (.int (0 : Int32)) := Vb1_2
  have N2 := Fr.snoc X2 N0 g_b1
  have Z2 : n0 ≤ h2.size := Nat.le_trans Z1 (Nat.le_of_eq W2.size.symm)
  have K2 := K1.wr W2 (Or.inr sz_b1)
  refine Goes.via (B := T2.setTop (mkF m 13 #[.val (.int (1 : Int32)), .val (.int p2), .val (.int p3), .val (.int p4), .val (.int p5)] [(.ref b1)])) st2 ?_
  exact own_out X2 (v := some (.ref b1)) (fun h => by rw [Bd.returns] at h; cases h) Bd.notSynchronized (fun fs hr => retOut X2 hx Bd.returns rfl (Or.inr (Or.inr (Or.inr (Or.inr ⟨rfl, rfl, rfl⟩)))) (hb hby d1_13) hr) ⟨by rw [g1], N2, (by rw [e2]; exact K2), (by rw [e2, ← g1]; exact Eb1_2), k1, (by rw [e2, ← g1]; exact Vb1_2)⟩ (by decide) (by decide)
theorem d1_14 : decode method_3_code 14 = .ok (.iload_n 0, 1) := by decide +kernel
theorem d1_15 : decode method_3_code 15 = .ok (.iconst 2, 1) := by decide +kernel
theorem d1_16 : decode method_3_code 16 = .ok (.if_icmp .ne 16, 3) := by decide +kernel
theorem d1_19 : decode method_3_code 19 = .ok (.iconst 2, 1) := by decide +kernel
theorem d1_20 : decode method_3_code 20 = .ok (.newarray .byte, 2) := by decide +kernel
theorem d1_22 : decode method_3_code 22 = .ok (.dup, 1) := by decide +kernel
theorem d1_23 : decode method_3_code 23 = .ok (.iconst 0, 1) := by decide +kernel
theorem d1_24 : decode method_3_code 24 = .ok (.iload_n 1, 1) := by decide +kernel
theorem d1_25 : decode method_3_code 25 = .ok (.bastore, 1) := by decide +kernel
theorem d1_26 : decode method_3_code 26 = .ok (.dup, 1) := by decide +kernel
theorem d1_27 : decode method_3_code 27 = .ok (.iconst 1, 1) := by decide +kernel
theorem d1_28 : decode method_3_code 28 = .ok (.iload 4, 2) := by decide +kernel
theorem d1_30 : decode method_3_code 30 = .ok (.bastore, 1) := by decide +kernel
theorem d1_31 : decode method_3_code 31 = .ok (.areturn, 1) := by decide +kernel
theorem ef_1_2 (m : MethodId) (x0 : Int32) (x1 : Int32) (x2 : Int32) (x3 : Int32) (x4 : Int32) : entryFrame m #[(.int x0), (.int x1), (.int x2), (.int x3), (.int x4)] 5 = mkF m 0 #[.val (.int x0), .val (.int x1), .val (.int x2), .val (.int x3), .val (.int x4)] [] := by first | (simp [entryFrame, mkF, argsToLocals, Value.category]; done) | rfl
def Q1_2 (Z : State) (p2 : Int32) (p3 : Int32) (p4 : Int32) (p5 : Int32) (h0 : Heap) (n0 : Nat) (v : Option Value) (h : Heap) (L : List Loc) : Prop := v = some (.ref h0.size) ∧ Fr n0 L ∧ Keep h0 h [] ∧ Exa Z h h0.size "[B" ∧ ∃ k, Arv Z h h0.size k .byte (2 : Int32) [(.int (nar .byte p2)), (.int (nar .byte p5))] (.int (0 : Int32))
set_option maxRecDepth 65536 in
set_option maxHeartbeats 40000000 in
theorem rm1_2 (l : Launch) (Z : State) (a0 : Array Value) (hw : ∀ d ∈ tables_1, d.before a0 Z = true) (ws : List Jvm.Cond) (p2 : Int32) (p3 : Int32) (p4 : Int32) (p5 : Int32) (h0 : Heap) (n0 : Nat) (Z0 : n0 ≤ h0.size)  :
    MetFree l (⟨"com/example/highwater/highwater/embedded/KeysPrefixEndPinLaw", "make", "(IBBBB)[B"⟩ : MethodName) (head1 (Jvm.Cond.code (⟨"com/example/highwater/highwater/embedded/KeysPrefixEndPinLaw", "make", "(IBBBB)[B"⟩ : MethodName) method_3_code 5 (some (.array .byte)) :: ws) ({ frames := 0, cells := 1, slots := 2, locals := 0 } : Room)) (fun a U => a = #[(.int (2 : Int32)), (.int p2), (.int p3), (.int p4), (.int p5)] ∧ Z.Warmed39 U.vm ∧ U.heap = h0) (fun _ _ _ _ _ => True) (fun _ U o U' => ∃ v L, o = .returned v ∧ Q1_2 Z p2 p3 p4 p5 h0 n0 v U'.heap L ∧ FrameEnd U o U' L ({ frames := 0, cells := 1, slots := 2, locals := 0 } : Room).cells ({ frames := 0, cells := 1, slots := 2, locals := 0 } : Room).slots) := by
  refine MetFree.of_bodySF (plainFor_of_name pn_com_example_highwater_highwater_embedded_KeysPrefixEndPinLaw) hisR ?_
  intro p e s m args below meth c s₁ Bd hml0 hP hK
  obtain ⟨rfl, hZ, hh⟩ := hP
  have hx := Bd.exec
  have hby := Bd.bytes
  have hml : c.maxLocals = 5 := hml0
  have hown : s.vm.findClass "com/example/highwater/highwater/embedded/KeysPrefixEndPinLaw" = some m.cls := findClass_of_methodNamed Bd.named
  have hnm := (name_of_methodNamed Bd.named Bd.method).1
  have X0 : Stand p l e ({ frames := 0, cells := 1, slots := 2, locals := 0 } : Room) s m #[(.int (2 : Int32)), (.int p2), (.int p3), (.int p4), (.int p5)] below meth c s₁ [] 0 0 := Stand.of_body Bd
  have e0 : s₁.heap = h0 := by rw [← hh, Bd.state]; rfl
  have N0 := Fr.nil n0
  show Goes p e below (fun s₂ o => ∃ v L, o = .returned v ∧ Q1_2 Z p2 p3 p4 p5 h0 n0 v s₂.heap L ∧ FrameEnd s o s₂ L ({ frames := 0, cells := 1, slots := 2, locals := 0 } : Room).cells ({ frames := 0, cells := 1, slots := 2, locals := 0 } : Room).slots) (s₁.setTop (entryFrame m #[(.int (2 : Int32)), (.int p2), (.int p3), (.int p4), (.int p5)] 5))
  refine Goes.cast (ef_1_2 m (2 : Int32) p2 p3 p4 p5) ?_
  have K0 := Keep.refl h0 []
  refine Goes.via (B := s₁.setTop (mkF m 1 #[.val (.int (2 : Int32)), .val (.int p2), .val (.int p3), .val (.int p4), .val (.int p5)] [(.int (2 : Int32))])) (fun t k => XS.iloadN X0.here hx rfl (hb hby d1_0) rfl k) ?_
  refine Goes.via (B := s₁.setTop (mkF m 2 #[.val (.int (2 : Int32)), .val (.int p2), .val (.int p3), .val (.int p4), .val (.int p5)] [(.int (1 : Int32)), (.int (2 : Int32))])) (fun t k => XS.iconst X0.here hx rfl (hb hby d1_1) k) ?_
  refine Goes.via (B := s₁.setTop (mkF m 14 #[.val (.int (2 : Int32)), .val (.int p2), .val (.int p3), .val (.int p4), .val (.int p5)] [])) (fun t k => XS.icmpYes X0.here hx rfl (pc0 := 2) (pc' := 14) rfl (hb hby d1_2) rfl (feq (by decide : ¬ (2 : Int32) = (1 : Int32))).2 (by decide) (by decide) k) ?_
  refine Goes.via (B := s₁.setTop (mkF m 15 #[.val (.int (2 : Int32)), .val (.int p2), .val (.int p3), .val (.int p4), .val (.int p5)] [(.int (2 : Int32))])) (fun t k => XS.iloadN X0.here hx rfl (hb hby d1_14) rfl k) ?_
  refine Goes.via (B := s₁.setTop (mkF m 16 #[.val (.int (2 : Int32)), .val (.int p2), .val (.int p3), .val (.int p4), .val (.int p5)] [(.int (2 : Int32)), (.int (2 : Int32))])) (fun t k => XS.iconst X0.here hx rfl (hb hby d1_15) k) ?_
  refine Goes.via (B := s₁.setTop (mkF m 19 #[.val (.int (2 : Int32)), .val (.int p2), .val (.int p3), .val (.int p4), .val (.int p5)] [])) (fun t k => XS.icmpNo X0.here hx rfl (hb hby d1_16) rfl (teq (by decide : (2 : Int32) = (2 : Int32))).2 k) ?_
  refine Goes.via (B := s₁.setTop (mkF m 20 #[.val (.int (2 : Int32)), .val (.int p2), .val (.int p3), .val (.int p4), .val (.int p5)] [(.int (2 : Int32))])) (fun t k => XS.iconst X0.here hx rfl (hb hby d1_19) k) ?_
  obtain ⟨T1, h1, k1, X1, e1, E1, A1, B1, st1⟩ := newPE X0 hx hZ (hw _ (List.mem_of_getElem? (i := 5) rfl)) e0 (g := (mkF m 20 #[.val (.int (2 : Int32)), .val (.int p2), .val (.int p3), .val (.int p4), .val (.int p5)] [(.int (2 : Int32))])) rfl (hb hby d1_20) rfl (by decide) (cap := 2) (by decide) (by decide) (by decide) (by decide) (ad := "[B") (by decide)
  obtain ⟨b1, g1⟩ : ∃ z, z = h0.size := ⟨_, rfl⟩
  rw [← g1] at A1 st1 B1
  have Vb1 : Arv Z h1 b1 k1 .byte (2 : Int32) [(.int (0 : Int32)), (.int (0 : Int32))] (.int (0 : Int32)) := (Arv.new A1 (by decide)).pad (pad_rep [] (.int (0 : Int32)) 2)
  have g_b1 : n0 ≤ b1 := Nat.le_trans Z0 (Nat.le_of_eq g1.symm)
  have Z1 : n0 ≤ h1.size := Nat.le_trans Z0 E1.1
  have sz_b1 : h0.size ≤ b1 := Nat.le_trans K0.1 (Nat.le_of_eq g1.symm)
  have K1 := K0.ext E1
  refine Goes.via (B := T1.setTop (mkF m 22 #[.val (.int (2 : Int32)), .val (.int p2), .val (.int p3), .val (.int p4), .val (.int p5)] [(.ref b1)])) st1 ?_
  refine Goes.via (B := T1.setTop (mkF m 23 #[.val (.int (2 : Int32)), .val (.int p2), .val (.int p3), .val (.int p4), .val (.int p5)] [(.ref b1), (.ref b1)])) (fun t k => XS.dup X1.here hx rfl (hb hby d1_22) rfl rfl k) ?_
  refine Goes.via (B := T1.setTop (mkF m 24 #[.val (.int (2 : Int32)), .val (.int p2), .val (.int p3), .val (.int p4), .val (.int p5)] [(.int (0 : Int32)), (.ref b1), (.ref b1)])) (fun t k => XS.iconst X1.here hx rfl (hb hby d1_23) k) ?_
  refine Goes.via (B := T1.setTop (mkF m 25 #[.val (.int (2 : Int32)), .val (.int p2), .val (.int p3), .val (.int p4), .val (.int p5)] [(.int p2), (.int (0 : Int32)), (.ref b1), (.ref b1)])) (fun t k => XS.iloadN X1.here hx rfl (hb hby d1_24) rfl k) ?_
  obtain ⟨cl2, Ar2, q2, S2, M2, H2, G2⟩ := Vb1
  have hin2 : ¬ ((0 : Int32) < 0 ∨ cl2.slots.size ≤ ((0 : Int32)).toNatClampNeg) := inb_of S2 ⟨by decide, by decide⟩
  obtain ⟨T2, h2, X2, e2, W2, st2⟩ := stB X1 hx hZ e1 Ar2 (j := (0 : Int32)) hin2 (g := (mkF m 25 #[.val (.int (2 : Int32)), .val (.int p2), .val (.int p3), .val (.int p4), .val (.int p5)] [(.int p2), (.int (0 : Int32)), (.ref b1), (.ref b1)])) rfl rfl (hb hby d1_25)
  have Vb1_2 := Arv.set Ar2 q2 S2 M2 H2 G2 (fits_nar_byte _) W2 0 rfl (Nat.le_of_ble_eq_true rfl)
  have Eb1_2 := B1.wr W2
  replace Vb1_2 : Arv Z h2 b1 k1 .byte (2 : Int32) [(.int (nar .byte p2)), (.int (0 : Int32))] (.int (0 : Int32)) := Vb1_2
  have N2 := Fr.snoc X2 N0 g_b1
  have Z2 : n0 ≤ h2.size := Nat.le_trans Z1 (Nat.le_of_eq W2.size.symm)
  have K2 := K1.wr W2 (Or.inr sz_b1)
  refine Goes.via (B := T2.setTop (mkF m 26 #[.val (.int (2 : Int32)), .val (.int p2), .val (.int p3), .val (.int p4), .val (.int p5)] [(.ref b1)])) st2 ?_
  refine Goes.via (B := T2.setTop (mkF m 27 #[.val (.int (2 : Int32)), .val (.int p2), .val (.int p3), .val (.int p4), .val (.int p5)] [(.ref b1), (.ref b1)])) (fun t k => XS.dup X2.here hx rfl (hb hby d1_26) rfl rfl k) ?_
  refine Goes.via (B := T2.setTop (mkF m 28 #[.val (.int (2 : Int32)), .val (.int p2), .val (.int p3), .val (.int p4), .val (.int p5)] [(.int (1 : Int32)), (.ref b1), (.ref b1)])) (fun t k => XS.iconst X2.here hx rfl (hb hby d1_27) k) ?_
  refine Goes.via (B := T2.setTop (mkF m 30 #[.val (.int (2 : Int32)), .val (.int p2), .val (.int p3), .val (.int p4), .val (.int p5)] [(.int p5), (.int (1 : Int32)), (.ref b1), (.ref b1)])) (fun t k => XS.iload X2.here hx rfl (hb hby d1_28) rfl k) ?_
  obtain ⟨cl3, Ar3, q3, S3, M3, H3, G3⟩ := Vb1_2
  have hin3 : ¬ ((1 : Int32) < 0 ∨ cl3.slots.size ≤ ((1 : Int32)).toNatClampNeg) := inb_of S3 ⟨by decide, by decide⟩
  obtain ⟨T3, h3, X3, e3, W3, st3⟩ := stB X2 hx hZ e2 Ar3 (j := (1 : Int32)) hin3 (g := (mkF m 30 #[.val (.int (2 : Int32)), .val (.int p2), .val (.int p3), .val (.int p4), .val (.int p5)] [(.int p5), (.int (1 : Int32)), (.ref b1), (.ref b1)])) rfl rfl (hb hby d1_30)
  have Vb1_3 := Arv.set Ar3 q3 S3 M3 H3 G3 (fits_nar_byte _) W3 1 rfl (Nat.le_of_ble_eq_true rfl)
  have Eb1_3 := Eb1_2.wr W3
  replace Vb1_3 : Arv Z h3 b1 k1 .byte (2 : Int32) [(.int (nar .byte p2)), (.int (nar .byte p5))] (.int (0 : Int32)) := Vb1_3
  have N3 := Fr.snoc X3 N2 g_b1
  have Z3 : n0 ≤ h3.size := Nat.le_trans Z2 (Nat.le_of_eq W3.size.symm)
  have K3 := K2.wr W3 (Or.inr sz_b1)
  refine Goes.via (B := T3.setTop (mkF m 31 #[.val (.int (2 : Int32)), .val (.int p2), .val (.int p3), .val (.int p4), .val (.int p5)] [(.ref b1)])) st3 ?_
  exact own_out X3 (v := some (.ref b1)) (fun h => by rw [Bd.returns] at h; cases h) Bd.notSynchronized (fun fs hr => retOut X3 hx Bd.returns rfl (Or.inr (Or.inr (Or.inr (Or.inr ⟨rfl, rfl, rfl⟩)))) (hb hby d1_31) hr) ⟨by rw [g1], N3, (by rw [e3]; exact K3), (by rw [e3, ← g1]; exact Eb1_3), k1, (by rw [e3, ← g1]; exact Vb1_3)⟩ (by decide) (by decide)
theorem d1_32 : decode method_3_code 32 = .ok (.iload_n 0, 1) := by decide +kernel
theorem d1_33 : decode method_3_code 33 = .ok (.iconst 3, 1) := by decide +kernel
theorem d1_34 : decode method_3_code 34 = .ok (.if_icmp .ne 20, 3) := by decide +kernel
theorem d1_37 : decode method_3_code 37 = .ok (.iconst 3, 1) := by decide +kernel
theorem d1_38 : decode method_3_code 38 = .ok (.newarray .byte, 2) := by decide +kernel
theorem d1_40 : decode method_3_code 40 = .ok (.dup, 1) := by decide +kernel
theorem d1_41 : decode method_3_code 41 = .ok (.iconst 0, 1) := by decide +kernel
theorem d1_42 : decode method_3_code 42 = .ok (.iload_n 1, 1) := by decide +kernel
theorem d1_43 : decode method_3_code 43 = .ok (.bastore, 1) := by decide +kernel
theorem d1_44 : decode method_3_code 44 = .ok (.dup, 1) := by decide +kernel
theorem d1_45 : decode method_3_code 45 = .ok (.iconst 1, 1) := by decide +kernel
theorem d1_46 : decode method_3_code 46 = .ok (.iload_n 2, 1) := by decide +kernel
theorem d1_47 : decode method_3_code 47 = .ok (.bastore, 1) := by decide +kernel
theorem d1_48 : decode method_3_code 48 = .ok (.dup, 1) := by decide +kernel
theorem d1_49 : decode method_3_code 49 = .ok (.iconst 2, 1) := by decide +kernel
theorem d1_50 : decode method_3_code 50 = .ok (.iload 4, 2) := by decide +kernel
theorem d1_52 : decode method_3_code 52 = .ok (.bastore, 1) := by decide +kernel
theorem d1_53 : decode method_3_code 53 = .ok (.areturn, 1) := by decide +kernel
theorem ef_1_3 (m : MethodId) (x0 : Int32) (x1 : Int32) (x2 : Int32) (x3 : Int32) (x4 : Int32) : entryFrame m #[(.int x0), (.int x1), (.int x2), (.int x3), (.int x4)] 5 = mkF m 0 #[.val (.int x0), .val (.int x1), .val (.int x2), .val (.int x3), .val (.int x4)] [] := by first | (simp [entryFrame, mkF, argsToLocals, Value.category]; done) | rfl
def Q1_3 (Z : State) (p2 : Int32) (p3 : Int32) (p4 : Int32) (p5 : Int32) (h0 : Heap) (n0 : Nat) (v : Option Value) (h : Heap) (L : List Loc) : Prop := v = some (.ref h0.size) ∧ Fr n0 L ∧ Keep h0 h [] ∧ Exa Z h h0.size "[B" ∧ ∃ k, Arv Z h h0.size k .byte (3 : Int32) [(.int (nar .byte p2)), (.int (nar .byte p3)), (.int (nar .byte p5))] (.int (0 : Int32))
set_option maxRecDepth 65536 in
set_option maxHeartbeats 40000000 in
theorem rm1_3 (l : Launch) (Z : State) (a0 : Array Value) (hw : ∀ d ∈ tables_1, d.before a0 Z = true) (ws : List Jvm.Cond) (p2 : Int32) (p3 : Int32) (p4 : Int32) (p5 : Int32) (h0 : Heap) (n0 : Nat) (Z0 : n0 ≤ h0.size)  :
    MetFree l (⟨"com/example/highwater/highwater/embedded/KeysPrefixEndPinLaw", "make", "(IBBBB)[B"⟩ : MethodName) (head1 (Jvm.Cond.code (⟨"com/example/highwater/highwater/embedded/KeysPrefixEndPinLaw", "make", "(IBBBB)[B"⟩ : MethodName) method_3_code 5 (some (.array .byte)) :: ws) ({ frames := 0, cells := 1, slots := 3, locals := 0 } : Room)) (fun a U => a = #[(.int (3 : Int32)), (.int p2), (.int p3), (.int p4), (.int p5)] ∧ Z.Warmed39 U.vm ∧ U.heap = h0) (fun _ _ _ _ _ => True) (fun _ U o U' => ∃ v L, o = .returned v ∧ Q1_3 Z p2 p3 p4 p5 h0 n0 v U'.heap L ∧ FrameEnd U o U' L ({ frames := 0, cells := 1, slots := 3, locals := 0 } : Room).cells ({ frames := 0, cells := 1, slots := 3, locals := 0 } : Room).slots) := by
  refine MetFree.of_bodySF (plainFor_of_name pn_com_example_highwater_highwater_embedded_KeysPrefixEndPinLaw) hisR ?_
  intro p e s m args below meth c s₁ Bd hml0 hP hK
  obtain ⟨rfl, hZ, hh⟩ := hP
  have hx := Bd.exec
  have hby := Bd.bytes
  have hml : c.maxLocals = 5 := hml0
  have hown : s.vm.findClass "com/example/highwater/highwater/embedded/KeysPrefixEndPinLaw" = some m.cls := findClass_of_methodNamed Bd.named
  have hnm := (name_of_methodNamed Bd.named Bd.method).1
  have X0 : Stand p l e ({ frames := 0, cells := 1, slots := 3, locals := 0 } : Room) s m #[(.int (3 : Int32)), (.int p2), (.int p3), (.int p4), (.int p5)] below meth c s₁ [] 0 0 := Stand.of_body Bd
  have e0 : s₁.heap = h0 := by rw [← hh, Bd.state]; rfl
  have N0 := Fr.nil n0
  show Goes p e below (fun s₂ o => ∃ v L, o = .returned v ∧ Q1_3 Z p2 p3 p4 p5 h0 n0 v s₂.heap L ∧ FrameEnd s o s₂ L ({ frames := 0, cells := 1, slots := 3, locals := 0 } : Room).cells ({ frames := 0, cells := 1, slots := 3, locals := 0 } : Room).slots) (s₁.setTop (entryFrame m #[(.int (3 : Int32)), (.int p2), (.int p3), (.int p4), (.int p5)] 5))
  refine Goes.cast (ef_1_3 m (3 : Int32) p2 p3 p4 p5) ?_
  have K0 := Keep.refl h0 []
  refine Goes.via (B := s₁.setTop (mkF m 1 #[.val (.int (3 : Int32)), .val (.int p2), .val (.int p3), .val (.int p4), .val (.int p5)] [(.int (3 : Int32))])) (fun t k => XS.iloadN X0.here hx rfl (hb hby d1_0) rfl k) ?_
  refine Goes.via (B := s₁.setTop (mkF m 2 #[.val (.int (3 : Int32)), .val (.int p2), .val (.int p3), .val (.int p4), .val (.int p5)] [(.int (1 : Int32)), (.int (3 : Int32))])) (fun t k => XS.iconst X0.here hx rfl (hb hby d1_1) k) ?_
  refine Goes.via (B := s₁.setTop (mkF m 14 #[.val (.int (3 : Int32)), .val (.int p2), .val (.int p3), .val (.int p4), .val (.int p5)] [])) (fun t k => XS.icmpYes X0.here hx rfl (pc0 := 2) (pc' := 14) rfl (hb hby d1_2) rfl (feq (by decide : ¬ (3 : Int32) = (1 : Int32))).2 (by decide) (by decide) k) ?_
  refine Goes.via (B := s₁.setTop (mkF m 15 #[.val (.int (3 : Int32)), .val (.int p2), .val (.int p3), .val (.int p4), .val (.int p5)] [(.int (3 : Int32))])) (fun t k => XS.iloadN X0.here hx rfl (hb hby d1_14) rfl k) ?_
  refine Goes.via (B := s₁.setTop (mkF m 16 #[.val (.int (3 : Int32)), .val (.int p2), .val (.int p3), .val (.int p4), .val (.int p5)] [(.int (2 : Int32)), (.int (3 : Int32))])) (fun t k => XS.iconst X0.here hx rfl (hb hby d1_15) k) ?_
  refine Goes.via (B := s₁.setTop (mkF m 32 #[.val (.int (3 : Int32)), .val (.int p2), .val (.int p3), .val (.int p4), .val (.int p5)] [])) (fun t k => XS.icmpYes X0.here hx rfl (pc0 := 16) (pc' := 32) rfl (hb hby d1_16) rfl (feq (by decide : ¬ (3 : Int32) = (2 : Int32))).2 (by decide) (by decide) k) ?_
  refine Goes.via (B := s₁.setTop (mkF m 33 #[.val (.int (3 : Int32)), .val (.int p2), .val (.int p3), .val (.int p4), .val (.int p5)] [(.int (3 : Int32))])) (fun t k => XS.iloadN X0.here hx rfl (hb hby d1_32) rfl k) ?_
  refine Goes.via (B := s₁.setTop (mkF m 34 #[.val (.int (3 : Int32)), .val (.int p2), .val (.int p3), .val (.int p4), .val (.int p5)] [(.int (3 : Int32)), (.int (3 : Int32))])) (fun t k => XS.iconst X0.here hx rfl (hb hby d1_33) k) ?_
  refine Goes.via (B := s₁.setTop (mkF m 37 #[.val (.int (3 : Int32)), .val (.int p2), .val (.int p3), .val (.int p4), .val (.int p5)] [])) (fun t k => XS.icmpNo X0.here hx rfl (hb hby d1_34) rfl (teq (by decide : (3 : Int32) = (3 : Int32))).2 k) ?_
  refine Goes.via (B := s₁.setTop (mkF m 38 #[.val (.int (3 : Int32)), .val (.int p2), .val (.int p3), .val (.int p4), .val (.int p5)] [(.int (3 : Int32))])) (fun t k => XS.iconst X0.here hx rfl (hb hby d1_37) k) ?_
  obtain ⟨T1, h1, k1, X1, e1, E1, A1, B1, st1⟩ := newPE X0 hx hZ (hw _ (List.mem_of_getElem? (i := 5) rfl)) e0 (g := (mkF m 38 #[.val (.int (3 : Int32)), .val (.int p2), .val (.int p3), .val (.int p4), .val (.int p5)] [(.int (3 : Int32))])) rfl (hb hby d1_38) rfl (by decide) (cap := 3) (by decide) (by decide) (by decide) (by decide) (ad := "[B") (by decide)
  obtain ⟨b1, g1⟩ : ∃ z, z = h0.size := ⟨_, rfl⟩
  rw [← g1] at A1 st1 B1
  have Vb1 : Arv Z h1 b1 k1 .byte (3 : Int32) [(.int (0 : Int32)), (.int (0 : Int32)), (.int (0 : Int32))] (.int (0 : Int32)) := (Arv.new A1 (by decide)).pad (pad_rep [] (.int (0 : Int32)) 3)
  have g_b1 : n0 ≤ b1 := Nat.le_trans Z0 (Nat.le_of_eq g1.symm)
  have Z1 : n0 ≤ h1.size := Nat.le_trans Z0 E1.1
  have sz_b1 : h0.size ≤ b1 := Nat.le_trans K0.1 (Nat.le_of_eq g1.symm)
  have K1 := K0.ext E1
  refine Goes.via (B := T1.setTop (mkF m 40 #[.val (.int (3 : Int32)), .val (.int p2), .val (.int p3), .val (.int p4), .val (.int p5)] [(.ref b1)])) st1 ?_
  refine Goes.via (B := T1.setTop (mkF m 41 #[.val (.int (3 : Int32)), .val (.int p2), .val (.int p3), .val (.int p4), .val (.int p5)] [(.ref b1), (.ref b1)])) (fun t k => XS.dup X1.here hx rfl (hb hby d1_40) rfl rfl k) ?_
  refine Goes.via (B := T1.setTop (mkF m 42 #[.val (.int (3 : Int32)), .val (.int p2), .val (.int p3), .val (.int p4), .val (.int p5)] [(.int (0 : Int32)), (.ref b1), (.ref b1)])) (fun t k => XS.iconst X1.here hx rfl (hb hby d1_41) k) ?_
  refine Goes.via (B := T1.setTop (mkF m 43 #[.val (.int (3 : Int32)), .val (.int p2), .val (.int p3), .val (.int p4), .val (.int p5)] [(.int p2), (.int (0 : Int32)), (.ref b1), (.ref b1)])) (fun t k => XS.iloadN X1.here hx rfl (hb hby d1_42) rfl k) ?_
  obtain ⟨cl2, Ar2, q2, S2, M2, H2, G2⟩ := Vb1
  have hin2 : ¬ ((0 : Int32) < 0 ∨ cl2.slots.size ≤ ((0 : Int32)).toNatClampNeg) := inb_of S2 ⟨by decide, by decide⟩
  obtain ⟨T2, h2, X2, e2, W2, st2⟩ := stB X1 hx hZ e1 Ar2 (j := (0 : Int32)) hin2 (g := (mkF m 43 #[.val (.int (3 : Int32)), .val (.int p2), .val (.int p3), .val (.int p4), .val (.int p5)] [(.int p2), (.int (0 : Int32)), (.ref b1), (.ref b1)])) rfl rfl (hb hby d1_43)
  have Vb1_2 := Arv.set Ar2 q2 S2 M2 H2 G2 (fits_nar_byte _) W2 0 rfl (Nat.le_of_ble_eq_true rfl)
  have Eb1_2 := B1.wr W2
  replace Vb1_2 : Arv Z h2 b1 k1 .byte (3 : Int32) [(.int (nar .byte p2)), (.int (0 : Int32)), (.int (0 : Int32))] (.int (0 : Int32)) := Vb1_2
  have N2 := Fr.snoc X2 N0 g_b1
  have Z2 : n0 ≤ h2.size := Nat.le_trans Z1 (Nat.le_of_eq W2.size.symm)
  have K2 := K1.wr W2 (Or.inr sz_b1)
  refine Goes.via (B := T2.setTop (mkF m 44 #[.val (.int (3 : Int32)), .val (.int p2), .val (.int p3), .val (.int p4), .val (.int p5)] [(.ref b1)])) st2 ?_
  refine Goes.via (B := T2.setTop (mkF m 45 #[.val (.int (3 : Int32)), .val (.int p2), .val (.int p3), .val (.int p4), .val (.int p5)] [(.ref b1), (.ref b1)])) (fun t k => XS.dup X2.here hx rfl (hb hby d1_44) rfl rfl k) ?_
  refine Goes.via (B := T2.setTop (mkF m 46 #[.val (.int (3 : Int32)), .val (.int p2), .val (.int p3), .val (.int p4), .val (.int p5)] [(.int (1 : Int32)), (.ref b1), (.ref b1)])) (fun t k => XS.iconst X2.here hx rfl (hb hby d1_45) k) ?_
  refine Goes.via (B := T2.setTop (mkF m 47 #[.val (.int (3 : Int32)), .val (.int p2), .val (.int p3), .val (.int p4), .val (.int p5)] [(.int p3), (.int (1 : Int32)), (.ref b1), (.ref b1)])) (fun t k => XS.iloadN X2.here hx rfl (hb hby d1_46) rfl k) ?_
  obtain ⟨cl3, Ar3, q3, S3, M3, H3, G3⟩ := Vb1_2
  have hin3 : ¬ ((1 : Int32) < 0 ∨ cl3.slots.size ≤ ((1 : Int32)).toNatClampNeg) := inb_of S3 ⟨by decide, by decide⟩
  obtain ⟨T3, h3, X3, e3, W3, st3⟩ := stB X2 hx hZ e2 Ar3 (j := (1 : Int32)) hin3 (g := (mkF m 47 #[.val (.int (3 : Int32)), .val (.int p2), .val (.int p3), .val (.int p4), .val (.int p5)] [(.int p3), (.int (1 : Int32)), (.ref b1), (.ref b1)])) rfl rfl (hb hby d1_47)
  have Vb1_3 := Arv.set Ar3 q3 S3 M3 H3 G3 (fits_nar_byte _) W3 1 rfl (Nat.le_of_ble_eq_true rfl)
  have Eb1_3 := Eb1_2.wr W3
  replace Vb1_3 : Arv Z h3 b1 k1 .byte (3 : Int32) [(.int (nar .byte p2)), (.int (nar .byte p3)), (.int (0 : Int32))] (.int (0 : Int32)) := Vb1_3
  have N3 := Fr.snoc X3 N2 g_b1
  have Z3 : n0 ≤ h3.size := Nat.le_trans Z2 (Nat.le_of_eq W3.size.symm)
  have K3 := K2.wr W3 (Or.inr sz_b1)
  refine Goes.via (B := T3.setTop (mkF m 48 #[.val (.int (3 : Int32)), .val (.int p2), .val (.int p3), .val (.int p4), .val (.int p5)] [(.ref b1)])) st3 ?_
  refine Goes.via (B := T3.setTop (mkF m 49 #[.val (.int (3 : Int32)), .val (.int p2), .val (.int p3), .val (.int p4), .val (.int p5)] [(.ref b1), (.ref b1)])) (fun t k => XS.dup X3.here hx rfl (hb hby d1_48) rfl rfl k) ?_
  refine Goes.via (B := T3.setTop (mkF m 50 #[.val (.int (3 : Int32)), .val (.int p2), .val (.int p3), .val (.int p4), .val (.int p5)] [(.int (2 : Int32)), (.ref b1), (.ref b1)])) (fun t k => XS.iconst X3.here hx rfl (hb hby d1_49) k) ?_
  refine Goes.via (B := T3.setTop (mkF m 52 #[.val (.int (3 : Int32)), .val (.int p2), .val (.int p3), .val (.int p4), .val (.int p5)] [(.int p5), (.int (2 : Int32)), (.ref b1), (.ref b1)])) (fun t k => XS.iload X3.here hx rfl (hb hby d1_50) rfl k) ?_
  obtain ⟨cl4, Ar4, q4, S4, M4, H4, G4⟩ := Vb1_3
  have hin4 : ¬ ((2 : Int32) < 0 ∨ cl4.slots.size ≤ ((2 : Int32)).toNatClampNeg) := inb_of S4 ⟨by decide, by decide⟩
  obtain ⟨T4, h4, X4, e4, W4, st4⟩ := stB X3 hx hZ e3 Ar4 (j := (2 : Int32)) hin4 (g := (mkF m 52 #[.val (.int (3 : Int32)), .val (.int p2), .val (.int p3), .val (.int p4), .val (.int p5)] [(.int p5), (.int (2 : Int32)), (.ref b1), (.ref b1)])) rfl rfl (hb hby d1_52)
  have Vb1_4 := Arv.set Ar4 q4 S4 M4 H4 G4 (fits_nar_byte _) W4 2 rfl (Nat.le_of_ble_eq_true rfl)
  have Eb1_4 := Eb1_3.wr W4
  replace Vb1_4 : Arv Z h4 b1 k1 .byte (3 : Int32) [(.int (nar .byte p2)), (.int (nar .byte p3)), (.int (nar .byte p5))] (.int (0 : Int32)) := Vb1_4
  have N4 := Fr.snoc X4 N3 g_b1
  have Z4 : n0 ≤ h4.size := Nat.le_trans Z3 (Nat.le_of_eq W4.size.symm)
  have K4 := K3.wr W4 (Or.inr sz_b1)
  refine Goes.via (B := T4.setTop (mkF m 53 #[.val (.int (3 : Int32)), .val (.int p2), .val (.int p3), .val (.int p4), .val (.int p5)] [(.ref b1)])) st4 ?_
  exact own_out X4 (v := some (.ref b1)) (fun h => by rw [Bd.returns] at h; cases h) Bd.notSynchronized (fun fs hr => retOut X4 hx Bd.returns rfl (Or.inr (Or.inr (Or.inr (Or.inr ⟨rfl, rfl, rfl⟩)))) (hb hby d1_53) hr) ⟨by rw [g1], N4, (by rw [e4]; exact K4), (by rw [e4, ← g1]; exact Eb1_4), k1, (by rw [e4, ← g1]; exact Vb1_4)⟩ (by decide) (by decide)
theorem d1_54 : decode method_3_code 54 = .ok (.iconst 4, 1) := by decide +kernel
theorem d1_55 : decode method_3_code 55 = .ok (.newarray .byte, 2) := by decide +kernel
theorem d1_57 : decode method_3_code 57 = .ok (.dup, 1) := by decide +kernel
theorem d1_58 : decode method_3_code 58 = .ok (.iconst 0, 1) := by decide +kernel
theorem d1_59 : decode method_3_code 59 = .ok (.iload_n 1, 1) := by decide +kernel
theorem d1_60 : decode method_3_code 60 = .ok (.bastore, 1) := by decide +kernel
theorem d1_61 : decode method_3_code 61 = .ok (.dup, 1) := by decide +kernel
theorem d1_62 : decode method_3_code 62 = .ok (.iconst 1, 1) := by decide +kernel
theorem d1_63 : decode method_3_code 63 = .ok (.iload_n 2, 1) := by decide +kernel
theorem d1_64 : decode method_3_code 64 = .ok (.bastore, 1) := by decide +kernel
theorem d1_65 : decode method_3_code 65 = .ok (.dup, 1) := by decide +kernel
theorem d1_66 : decode method_3_code 66 = .ok (.iconst 2, 1) := by decide +kernel
theorem d1_67 : decode method_3_code 67 = .ok (.iload_n 3, 1) := by decide +kernel
theorem d1_68 : decode method_3_code 68 = .ok (.bastore, 1) := by decide +kernel
theorem d1_69 : decode method_3_code 69 = .ok (.dup, 1) := by decide +kernel
theorem d1_70 : decode method_3_code 70 = .ok (.iconst 3, 1) := by decide +kernel
theorem d1_71 : decode method_3_code 71 = .ok (.iload 4, 2) := by decide +kernel
theorem d1_73 : decode method_3_code 73 = .ok (.bastore, 1) := by decide +kernel
theorem d1_74 : decode method_3_code 74 = .ok (.areturn, 1) := by decide +kernel
theorem ef_1_4 (m : MethodId) (x0 : Int32) (x1 : Int32) (x2 : Int32) (x3 : Int32) (x4 : Int32) : entryFrame m #[(.int x0), (.int x1), (.int x2), (.int x3), (.int x4)] 5 = mkF m 0 #[.val (.int x0), .val (.int x1), .val (.int x2), .val (.int x3), .val (.int x4)] [] := by first | (simp [entryFrame, mkF, argsToLocals, Value.category]; done) | rfl
def Q1_4 (Z : State) (p2 : Int32) (p3 : Int32) (p4 : Int32) (p5 : Int32) (h0 : Heap) (n0 : Nat) (v : Option Value) (h : Heap) (L : List Loc) : Prop := v = some (.ref h0.size) ∧ Fr n0 L ∧ Keep h0 h [] ∧ Exa Z h h0.size "[B" ∧ ∃ k, Arv Z h h0.size k .byte (4 : Int32) [(.int (nar .byte p2)), (.int (nar .byte p3)), (.int (nar .byte p4)), (.int (nar .byte p5))] (.int (0 : Int32))
set_option maxRecDepth 65536 in
set_option maxHeartbeats 40000000 in
theorem rm1_4 (l : Launch) (Z : State) (a0 : Array Value) (hw : ∀ d ∈ tables_1, d.before a0 Z = true) (ws : List Jvm.Cond) (p2 : Int32) (p3 : Int32) (p4 : Int32) (p5 : Int32) (h0 : Heap) (n0 : Nat) (Z0 : n0 ≤ h0.size)  :
    MetFree l (⟨"com/example/highwater/highwater/embedded/KeysPrefixEndPinLaw", "make", "(IBBBB)[B"⟩ : MethodName) (head1 (Jvm.Cond.code (⟨"com/example/highwater/highwater/embedded/KeysPrefixEndPinLaw", "make", "(IBBBB)[B"⟩ : MethodName) method_3_code 5 (some (.array .byte)) :: ws) ({ frames := 0, cells := 1, slots := 4, locals := 0 } : Room)) (fun a U => a = #[(.int (4 : Int32)), (.int p2), (.int p3), (.int p4), (.int p5)] ∧ Z.Warmed39 U.vm ∧ U.heap = h0) (fun _ _ _ _ _ => True) (fun _ U o U' => ∃ v L, o = .returned v ∧ Q1_4 Z p2 p3 p4 p5 h0 n0 v U'.heap L ∧ FrameEnd U o U' L ({ frames := 0, cells := 1, slots := 4, locals := 0 } : Room).cells ({ frames := 0, cells := 1, slots := 4, locals := 0 } : Room).slots) := by
  refine MetFree.of_bodySF (plainFor_of_name pn_com_example_highwater_highwater_embedded_KeysPrefixEndPinLaw) hisR ?_
  intro p e s m args below meth c s₁ Bd hml0 hP hK
  obtain ⟨rfl, hZ, hh⟩ := hP
  have hx := Bd.exec
  have hby := Bd.bytes
  have hml : c.maxLocals = 5 := hml0
  have hown : s.vm.findClass "com/example/highwater/highwater/embedded/KeysPrefixEndPinLaw" = some m.cls := findClass_of_methodNamed Bd.named
  have hnm := (name_of_methodNamed Bd.named Bd.method).1
  have X0 : Stand p l e ({ frames := 0, cells := 1, slots := 4, locals := 0 } : Room) s m #[(.int (4 : Int32)), (.int p2), (.int p3), (.int p4), (.int p5)] below meth c s₁ [] 0 0 := Stand.of_body Bd
  have e0 : s₁.heap = h0 := by rw [← hh, Bd.state]; rfl
  have N0 := Fr.nil n0
  show Goes p e below (fun s₂ o => ∃ v L, o = .returned v ∧ Q1_4 Z p2 p3 p4 p5 h0 n0 v s₂.heap L ∧ FrameEnd s o s₂ L ({ frames := 0, cells := 1, slots := 4, locals := 0 } : Room).cells ({ frames := 0, cells := 1, slots := 4, locals := 0 } : Room).slots) (s₁.setTop (entryFrame m #[(.int (4 : Int32)), (.int p2), (.int p3), (.int p4), (.int p5)] 5))
  refine Goes.cast (ef_1_4 m (4 : Int32) p2 p3 p4 p5) ?_
  have K0 := Keep.refl h0 []
  refine Goes.via (B := s₁.setTop (mkF m 1 #[.val (.int (4 : Int32)), .val (.int p2), .val (.int p3), .val (.int p4), .val (.int p5)] [(.int (4 : Int32))])) (fun t k => XS.iloadN X0.here hx rfl (hb hby d1_0) rfl k) ?_
  refine Goes.via (B := s₁.setTop (mkF m 2 #[.val (.int (4 : Int32)), .val (.int p2), .val (.int p3), .val (.int p4), .val (.int p5)] [(.int (1 : Int32)), (.int (4 : Int32))])) (fun t k => XS.iconst X0.here hx rfl (hb hby d1_1) k) ?_
  refine Goes.via (B := s₁.setTop (mkF m 14 #[.val (.int (4 : Int32)), .val (.int p2), .val (.int p3), .val (.int p4), .val (.int p5)] [])) (fun t k => XS.icmpYes X0.here hx rfl (pc0 := 2) (pc' := 14) rfl (hb hby d1_2) rfl (feq (by decide : ¬ (4 : Int32) = (1 : Int32))).2 (by decide) (by decide) k) ?_
  refine Goes.via (B := s₁.setTop (mkF m 15 #[.val (.int (4 : Int32)), .val (.int p2), .val (.int p3), .val (.int p4), .val (.int p5)] [(.int (4 : Int32))])) (fun t k => XS.iloadN X0.here hx rfl (hb hby d1_14) rfl k) ?_
  refine Goes.via (B := s₁.setTop (mkF m 16 #[.val (.int (4 : Int32)), .val (.int p2), .val (.int p3), .val (.int p4), .val (.int p5)] [(.int (2 : Int32)), (.int (4 : Int32))])) (fun t k => XS.iconst X0.here hx rfl (hb hby d1_15) k) ?_
  refine Goes.via (B := s₁.setTop (mkF m 32 #[.val (.int (4 : Int32)), .val (.int p2), .val (.int p3), .val (.int p4), .val (.int p5)] [])) (fun t k => XS.icmpYes X0.here hx rfl (pc0 := 16) (pc' := 32) rfl (hb hby d1_16) rfl (feq (by decide : ¬ (4 : Int32) = (2 : Int32))).2 (by decide) (by decide) k) ?_
  refine Goes.via (B := s₁.setTop (mkF m 33 #[.val (.int (4 : Int32)), .val (.int p2), .val (.int p3), .val (.int p4), .val (.int p5)] [(.int (4 : Int32))])) (fun t k => XS.iloadN X0.here hx rfl (hb hby d1_32) rfl k) ?_
  refine Goes.via (B := s₁.setTop (mkF m 34 #[.val (.int (4 : Int32)), .val (.int p2), .val (.int p3), .val (.int p4), .val (.int p5)] [(.int (3 : Int32)), (.int (4 : Int32))])) (fun t k => XS.iconst X0.here hx rfl (hb hby d1_33) k) ?_
  refine Goes.via (B := s₁.setTop (mkF m 54 #[.val (.int (4 : Int32)), .val (.int p2), .val (.int p3), .val (.int p4), .val (.int p5)] [])) (fun t k => XS.icmpYes X0.here hx rfl (pc0 := 34) (pc' := 54) rfl (hb hby d1_34) rfl (feq (by decide : ¬ (4 : Int32) = (3 : Int32))).2 (by decide) (by decide) k) ?_
  refine Goes.via (B := s₁.setTop (mkF m 55 #[.val (.int (4 : Int32)), .val (.int p2), .val (.int p3), .val (.int p4), .val (.int p5)] [(.int (4 : Int32))])) (fun t k => XS.iconst X0.here hx rfl (hb hby d1_54) k) ?_
  obtain ⟨T1, h1, k1, X1, e1, E1, A1, B1, st1⟩ := newPE X0 hx hZ (hw _ (List.mem_of_getElem? (i := 5) rfl)) e0 (g := (mkF m 55 #[.val (.int (4 : Int32)), .val (.int p2), .val (.int p3), .val (.int p4), .val (.int p5)] [(.int (4 : Int32))])) rfl (hb hby d1_55) rfl (by decide) (cap := 4) (by decide) (by decide) (by decide) (by decide) (ad := "[B") (by decide)
  obtain ⟨b1, g1⟩ : ∃ z, z = h0.size := ⟨_, rfl⟩
  rw [← g1] at A1 st1 B1
  have Vb1 : Arv Z h1 b1 k1 .byte (4 : Int32) [(.int (0 : Int32)), (.int (0 : Int32)), (.int (0 : Int32)), (.int (0 : Int32))] (.int (0 : Int32)) := (Arv.new A1 (by decide)).pad (pad_rep [] (.int (0 : Int32)) 4)
  have g_b1 : n0 ≤ b1 := Nat.le_trans Z0 (Nat.le_of_eq g1.symm)
  have Z1 : n0 ≤ h1.size := Nat.le_trans Z0 E1.1
  have sz_b1 : h0.size ≤ b1 := Nat.le_trans K0.1 (Nat.le_of_eq g1.symm)
  have K1 := K0.ext E1
  refine Goes.via (B := T1.setTop (mkF m 57 #[.val (.int (4 : Int32)), .val (.int p2), .val (.int p3), .val (.int p4), .val (.int p5)] [(.ref b1)])) st1 ?_
  refine Goes.via (B := T1.setTop (mkF m 58 #[.val (.int (4 : Int32)), .val (.int p2), .val (.int p3), .val (.int p4), .val (.int p5)] [(.ref b1), (.ref b1)])) (fun t k => XS.dup X1.here hx rfl (hb hby d1_57) rfl rfl k) ?_
  refine Goes.via (B := T1.setTop (mkF m 59 #[.val (.int (4 : Int32)), .val (.int p2), .val (.int p3), .val (.int p4), .val (.int p5)] [(.int (0 : Int32)), (.ref b1), (.ref b1)])) (fun t k => XS.iconst X1.here hx rfl (hb hby d1_58) k) ?_
  refine Goes.via (B := T1.setTop (mkF m 60 #[.val (.int (4 : Int32)), .val (.int p2), .val (.int p3), .val (.int p4), .val (.int p5)] [(.int p2), (.int (0 : Int32)), (.ref b1), (.ref b1)])) (fun t k => XS.iloadN X1.here hx rfl (hb hby d1_59) rfl k) ?_
  obtain ⟨cl2, Ar2, q2, S2, M2, H2, G2⟩ := Vb1
  have hin2 : ¬ ((0 : Int32) < 0 ∨ cl2.slots.size ≤ ((0 : Int32)).toNatClampNeg) := inb_of S2 ⟨by decide, by decide⟩
  obtain ⟨T2, h2, X2, e2, W2, st2⟩ := stB X1 hx hZ e1 Ar2 (j := (0 : Int32)) hin2 (g := (mkF m 60 #[.val (.int (4 : Int32)), .val (.int p2), .val (.int p3), .val (.int p4), .val (.int p5)] [(.int p2), (.int (0 : Int32)), (.ref b1), (.ref b1)])) rfl rfl (hb hby d1_60)
  have Vb1_2 := Arv.set Ar2 q2 S2 M2 H2 G2 (fits_nar_byte _) W2 0 rfl (Nat.le_of_ble_eq_true rfl)
  have Eb1_2 := B1.wr W2
  replace Vb1_2 : Arv Z h2 b1 k1 .byte (4 : Int32) [(.int (nar .byte p2)), (.int (0 : Int32)), (.int (0 : Int32)), (.int (0 : Int32))] (.int (0 : Int32)) := Vb1_2
  have N2 := Fr.snoc X2 N0 g_b1
  have Z2 : n0 ≤ h2.size := Nat.le_trans Z1 (Nat.le_of_eq W2.size.symm)
  have K2 := K1.wr W2 (Or.inr sz_b1)
  refine Goes.via (B := T2.setTop (mkF m 61 #[.val (.int (4 : Int32)), .val (.int p2), .val (.int p3), .val (.int p4), .val (.int p5)] [(.ref b1)])) st2 ?_
  refine Goes.via (B := T2.setTop (mkF m 62 #[.val (.int (4 : Int32)), .val (.int p2), .val (.int p3), .val (.int p4), .val (.int p5)] [(.ref b1), (.ref b1)])) (fun t k => XS.dup X2.here hx rfl (hb hby d1_61) rfl rfl k) ?_
  refine Goes.via (B := T2.setTop (mkF m 63 #[.val (.int (4 : Int32)), .val (.int p2), .val (.int p3), .val (.int p4), .val (.int p5)] [(.int (1 : Int32)), (.ref b1), (.ref b1)])) (fun t k => XS.iconst X2.here hx rfl (hb hby d1_62) k) ?_
  refine Goes.via (B := T2.setTop (mkF m 64 #[.val (.int (4 : Int32)), .val (.int p2), .val (.int p3), .val (.int p4), .val (.int p5)] [(.int p3), (.int (1 : Int32)), (.ref b1), (.ref b1)])) (fun t k => XS.iloadN X2.here hx rfl (hb hby d1_63) rfl k) ?_
  obtain ⟨cl3, Ar3, q3, S3, M3, H3, G3⟩ := Vb1_2
  have hin3 : ¬ ((1 : Int32) < 0 ∨ cl3.slots.size ≤ ((1 : Int32)).toNatClampNeg) := inb_of S3 ⟨by decide, by decide⟩
  obtain ⟨T3, h3, X3, e3, W3, st3⟩ := stB X2 hx hZ e2 Ar3 (j := (1 : Int32)) hin3 (g := (mkF m 64 #[.val (.int (4 : Int32)), .val (.int p2), .val (.int p3), .val (.int p4), .val (.int p5)] [(.int p3), (.int (1 : Int32)), (.ref b1), (.ref b1)])) rfl rfl (hb hby d1_64)
  have Vb1_3 := Arv.set Ar3 q3 S3 M3 H3 G3 (fits_nar_byte _) W3 1 rfl (Nat.le_of_ble_eq_true rfl)
  have Eb1_3 := Eb1_2.wr W3
  replace Vb1_3 : Arv Z h3 b1 k1 .byte (4 : Int32) [(.int (nar .byte p2)), (.int (nar .byte p3)), (.int (0 : Int32)), (.int (0 : Int32))] (.int (0 : Int32)) := Vb1_3
  have N3 := Fr.snoc X3 N2 g_b1
  have Z3 : n0 ≤ h3.size := Nat.le_trans Z2 (Nat.le_of_eq W3.size.symm)
  have K3 := K2.wr W3 (Or.inr sz_b1)
  refine Goes.via (B := T3.setTop (mkF m 65 #[.val (.int (4 : Int32)), .val (.int p2), .val (.int p3), .val (.int p4), .val (.int p5)] [(.ref b1)])) st3 ?_
  refine Goes.via (B := T3.setTop (mkF m 66 #[.val (.int (4 : Int32)), .val (.int p2), .val (.int p3), .val (.int p4), .val (.int p5)] [(.ref b1), (.ref b1)])) (fun t k => XS.dup X3.here hx rfl (hb hby d1_65) rfl rfl k) ?_
  refine Goes.via (B := T3.setTop (mkF m 67 #[.val (.int (4 : Int32)), .val (.int p2), .val (.int p3), .val (.int p4), .val (.int p5)] [(.int (2 : Int32)), (.ref b1), (.ref b1)])) (fun t k => XS.iconst X3.here hx rfl (hb hby d1_66) k) ?_
  refine Goes.via (B := T3.setTop (mkF m 68 #[.val (.int (4 : Int32)), .val (.int p2), .val (.int p3), .val (.int p4), .val (.int p5)] [(.int p4), (.int (2 : Int32)), (.ref b1), (.ref b1)])) (fun t k => XS.iloadN X3.here hx rfl (hb hby d1_67) rfl k) ?_
  obtain ⟨cl4, Ar4, q4, S4, M4, H4, G4⟩ := Vb1_3
  have hin4 : ¬ ((2 : Int32) < 0 ∨ cl4.slots.size ≤ ((2 : Int32)).toNatClampNeg) := inb_of S4 ⟨by decide, by decide⟩
  obtain ⟨T4, h4, X4, e4, W4, st4⟩ := stB X3 hx hZ e3 Ar4 (j := (2 : Int32)) hin4 (g := (mkF m 68 #[.val (.int (4 : Int32)), .val (.int p2), .val (.int p3), .val (.int p4), .val (.int p5)] [(.int p4), (.int (2 : Int32)), (.ref b1), (.ref b1)])) rfl rfl (hb hby d1_68)
  have Vb1_4 := Arv.set Ar4 q4 S4 M4 H4 G4 (fits_nar_byte _) W4 2 rfl (Nat.le_of_ble_eq_true rfl)
  have Eb1_4 := Eb1_3.wr W4
  replace Vb1_4 : Arv Z h4 b1 k1 .byte (4 : Int32) [(.int (nar .byte p2)), (.int (nar .byte p3)), (.int (nar .byte p4)), (.int (0 : Int32))] (.int (0 : Int32)) := Vb1_4
  have N4 := Fr.snoc X4 N3 g_b1
  have Z4 : n0 ≤ h4.size := Nat.le_trans Z3 (Nat.le_of_eq W4.size.symm)
  have K4 := K3.wr W4 (Or.inr sz_b1)
  refine Goes.via (B := T4.setTop (mkF m 69 #[.val (.int (4 : Int32)), .val (.int p2), .val (.int p3), .val (.int p4), .val (.int p5)] [(.ref b1)])) st4 ?_
  refine Goes.via (B := T4.setTop (mkF m 70 #[.val (.int (4 : Int32)), .val (.int p2), .val (.int p3), .val (.int p4), .val (.int p5)] [(.ref b1), (.ref b1)])) (fun t k => XS.dup X4.here hx rfl (hb hby d1_69) rfl rfl k) ?_
  refine Goes.via (B := T4.setTop (mkF m 71 #[.val (.int (4 : Int32)), .val (.int p2), .val (.int p3), .val (.int p4), .val (.int p5)] [(.int (3 : Int32)), (.ref b1), (.ref b1)])) (fun t k => XS.iconst X4.here hx rfl (hb hby d1_70) k) ?_
  refine Goes.via (B := T4.setTop (mkF m 73 #[.val (.int (4 : Int32)), .val (.int p2), .val (.int p3), .val (.int p4), .val (.int p5)] [(.int p5), (.int (3 : Int32)), (.ref b1), (.ref b1)])) (fun t k => XS.iload X4.here hx rfl (hb hby d1_71) rfl k) ?_
  obtain ⟨cl5, Ar5, q5, S5, M5, H5, G5⟩ := Vb1_4
  have hin5 : ¬ ((3 : Int32) < 0 ∨ cl5.slots.size ≤ ((3 : Int32)).toNatClampNeg) := inb_of S5 ⟨by decide, by decide⟩
  obtain ⟨T5, h5, X5, e5, W5, st5⟩ := stB X4 hx hZ e4 Ar5 (j := (3 : Int32)) hin5 (g := (mkF m 73 #[.val (.int (4 : Int32)), .val (.int p2), .val (.int p3), .val (.int p4), .val (.int p5)] [(.int p5), (.int (3 : Int32)), (.ref b1), (.ref b1)])) rfl rfl (hb hby d1_73)
  have Vb1_5 := Arv.set Ar5 q5 S5 M5 H5 G5 (fits_nar_byte _) W5 3 rfl (Nat.le_of_ble_eq_true rfl)
  have Eb1_5 := Eb1_4.wr W5
  replace Vb1_5 : Arv Z h5 b1 k1 .byte (4 : Int32) [(.int (nar .byte p2)), (.int (nar .byte p3)), (.int (nar .byte p4)), (.int (nar .byte p5))] (.int (0 : Int32)) := Vb1_5
  have N5 := Fr.snoc X5 N4 g_b1
  have Z5 : n0 ≤ h5.size := Nat.le_trans Z4 (Nat.le_of_eq W5.size.symm)
  have K5 := K4.wr W5 (Or.inr sz_b1)
  refine Goes.via (B := T5.setTop (mkF m 74 #[.val (.int (4 : Int32)), .val (.int p2), .val (.int p3), .val (.int p4), .val (.int p5)] [(.ref b1)])) st5 ?_
  exact own_out X5 (v := some (.ref b1)) (fun h => by rw [Bd.returns] at h; cases h) Bd.notSynchronized (fun fs hr => retOut X5 hx Bd.returns rfl (Or.inr (Or.inr (Or.inr (Or.inr ⟨rfl, rfl, rfl⟩)))) (hb hby d1_74) hr) ⟨by rw [g1], N5, (by rw [e5]; exact K5), (by rw [e5, ← g1]; exact Eb1_5), k1, (by rw [e5, ← g1]; exact Vb1_5)⟩ (by decide) (by decide)
theorem d2_0 : decode prog_22_method_3_code 0 = .ok (.aload_n 0, 1) := by decide +kernel
theorem d2_1 : decode prog_22_method_3_code 1 = .ok (.invokevirtual 23, 3) := by decide +kernel
theorem d2_4 : decode prog_22_method_3_code 4 = .ok (.checkcast 24, 3) := by decide +kernel
theorem d2_7 : decode prog_22_method_3_code 7 = .ok (.astore_n 1, 1) := by decide +kernel
theorem d2_8 : decode prog_22_method_3_code 8 = .ok (.aload_n 1, 1) := by decide +kernel
theorem d2_9 : decode prog_22_method_3_code 9 = .ok (.aload_n 1, 1) := by decide +kernel
theorem d2_10 : decode prog_22_method_3_code 10 = .ok (.arraylength, 1) := by decide +kernel
theorem d2_11 : decode prog_22_method_3_code 11 = .ok (.iconst 1, 1) := by decide +kernel
theorem d2_12 : decode prog_22_method_3_code 12 = .ok (.isub, 1) := by decide +kernel
theorem d2_13 : decode prog_22_method_3_code 13 = .ok (.dup2, 1) := by decide +kernel
theorem d2_14 : decode prog_22_method_3_code 14 = .ok (.baload, 1) := by decide +kernel
theorem d2_15 : decode prog_22_method_3_code 15 = .ok (.iconst 1, 1) := by decide +kernel
theorem d2_16 : decode prog_22_method_3_code 16 = .ok (.iadd, 1) := by decide +kernel
theorem d2_17 : decode prog_22_method_3_code 17 = .ok (.i2b, 1) := by decide +kernel
theorem d2_18 : decode prog_22_method_3_code 18 = .ok (.bastore, 1) := by decide +kernel
theorem d2_19 : decode prog_22_method_3_code 19 = .ok (.aload_n 1, 1) := by decide +kernel
theorem d2_20 : decode prog_22_method_3_code 20 = .ok (.areturn, 1) := by decide +kernel
theorem pn_com_example_highwater_highwater_embedded_Keys : plainName "com/example/highwater/highwater/embedded/Keys" = true := by first | (simp [plainName, overriddenIn]; done) | decide +kernel
theorem ef_2_1 (m : MethodId) (x0 : Addr) : entryFrame m #[(.ref x0)] 2 = mkF m 0 #[.val (.ref x0), .unset] [] := by first | (simp [entryFrame, mkF, argsToLocals, Value.category]; done) | rfl
def Q2_1 (Z : State) (a1 : Addr) (k1 : ClassId) (y0 : Int32) (h0 : Heap) (n0 : Nat) (v : Option Value) (h : Heap) (L : List Loc) : Prop := v = some (.ref h0.size) ∧ Fr n0 L ∧ Keep h0 h [] ∧ ∃ k, Arv Z h h0.size k .byte (1 : Int32) [(.int (nar .byte ((y0 + (1 : Int32)).toInt8.toInt32)))] (.int (0 : Int32))
set_option maxRecDepth 65536 in
set_option maxHeartbeats 40000000 in
theorem rm2_1 (l : Launch) (Z : State) (a0 : Array Value) (hw : ∀ d ∈ tables_1, d.before a0 Z = true) (ws : List Jvm.Cond) (a1 : Addr) (k1 : ClassId) (y0 : Int32) (h0 : Heap) (n0 : Nat) (Z0 : n0 ≤ h0.size) (V0 : Arv Z h0 a1 k1 .byte (1 : Int32) [(.int y0)] (.int (0 : Int32))) (B0 : Exa Z h0 a1 "[B") :
    MetFree l (⟨"com/example/highwater/highwater/embedded/Keys", "prefixEnd", "([B)[B"⟩ : MethodName) (head1 (Jvm.Cond.code (⟨"com/example/highwater/highwater/embedded/Keys", "prefixEnd", "([B)[B"⟩ : MethodName) prog_22_method_3_code 2 (some (.array .byte)) :: ws) ({ frames := 1, cells := 1, slots := 1, locals := 14 } : Room)) (fun a U => a = #[(.ref a1)] ∧ Z.Warmed39 U.vm ∧ U.heap = h0) (fun _ _ _ _ _ => True) (fun _ U o U' => ∃ v L, o = .returned v ∧ Q2_1 Z a1 k1 y0 h0 n0 v U'.heap L ∧ FrameEnd U o U' L ({ frames := 1, cells := 1, slots := 1, locals := 14 } : Room).cells ({ frames := 1, cells := 1, slots := 1, locals := 14 } : Room).slots) := by
  refine MetFree.of_bodySF (plainFor_of_name pn_com_example_highwater_highwater_embedded_Keys) hisR ?_
  intro p e s m args below meth c s₁ Bd hml0 hP hK
  obtain ⟨rfl, hZ, hh⟩ := hP
  have hx := Bd.exec
  have hby := Bd.bytes
  have hml : c.maxLocals = 2 := hml0
  have hown : s.vm.findClass "com/example/highwater/highwater/embedded/Keys" = some m.cls := findClass_of_methodNamed Bd.named
  have hnm := (name_of_methodNamed Bd.named Bd.method).1
  have X0 : Stand p l e ({ frames := 1, cells := 1, slots := 1, locals := 14 } : Room) s m #[(.ref a1)] below meth c s₁ [] 0 0 := Stand.of_body Bd
  have e0 : s₁.heap = h0 := by rw [← hh, Bd.state]; rfl
  have N0 := Fr.nil n0
  show Goes p e below (fun s₂ o => ∃ v L, o = .returned v ∧ Q2_1 Z a1 k1 y0 h0 n0 v s₂.heap L ∧ FrameEnd s o s₂ L ({ frames := 1, cells := 1, slots := 1, locals := 14 } : Room).cells ({ frames := 1, cells := 1, slots := 1, locals := 14 } : Room).slots) (s₁.setTop (entryFrame m #[(.ref a1)] 2))
  refine Goes.cast (ef_2_1 m a1) ?_
  have K0 := Keep.refl h0 []
  refine Goes.via (B := s₁.setTop (mkF m 1 #[.val (.ref a1), .unset] [(.ref a1)])) (fun t k => XS.aloadN X0.here hx rfl (hb hby d2_0) rfl rfl k) ?_
  obtain ⟨T1, h1, X1, e1, E1, A1, B1, st1⟩ := cloneH X0 hx hZ hown (hw _ (List.mem_of_getElem? (i := 10) rfl)) (hw _ (List.mem_of_getElem? (i := 11) rfl)) (hw _ (List.mem_of_getElem? (i := 15) rfl)) (hw _ (List.mem_of_getElem? (i := 13) rfl)) (hw _ (List.mem_of_getElem? (i := 14) rfl)) (hw _ (List.mem_of_getElem? (i := 16) rfl)) e0 (V0).arh B0 (g := (mkF m 1 #[.val (.ref a1), .unset] [(.ref a1)])) rfl (by rw [hml]; rfl) rfl (hb hby d2_1) (by decide) (W := 0) (by show 2 * 0 + _ ≤ _; exact Nat.le_of_eq rfl) (by decide) (cap := 1) (by decide) (by decide) (by decide)
  obtain ⟨b1, g1⟩ : ∃ z, z = h0.size := ⟨_, rfl⟩
  rw [← g1] at A1 st1 B1
  have ne_a1_b1 : a1 ≠ b1 := Nat.ne_of_lt (Nat.lt_of_lt_of_le V0.lt (Nat.le_of_eq g1.symm))
  have Va1_1 := V0.ext E1
  have Ea1_1 := B0.ext E1
  have Vb1 : Arv Z h1 b1 k1 .byte (1 : Int32) [(.int y0)] (.int (0 : Int32)) := A1
  have g_b1 : n0 ≤ b1 := Nat.le_trans Z0 (Nat.le_of_eq g1.symm)
  have Z1 : n0 ≤ h1.size := Nat.le_trans Z0 E1.1
  have sz_b1 : h0.size ≤ b1 := Nat.le_trans K0.1 (Nat.le_of_eq g1.symm)
  have K1 := K0.ext E1
  refine Goes.via (B := T1.setTop (mkF m 4 #[.val (.ref a1), .unset] [(.ref b1)])) st1 ?_
  obtain ⟨T2, X2, e2, st2⟩ := castY X1 hx hZ hown (hw _ (List.mem_of_getElem? (i := 17) rfl)) e1 (Ins.self B1) (g := (mkF m 4 #[.val (.ref a1), .unset] [(.ref b1)])) rfl rfl (hb hby d2_4)
  refine Goes.via (B := T2.setTop (mkF m 7 #[.val (.ref a1), .unset] [(.ref b1)])) st2 ?_
  refine Goes.via (B := T2.setTop (mkF m 8 #[.val (.ref a1), .val (.ref b1)] [])) (fun t k => XS.astoreN X2.here hx rfl (hb hby d2_7) rfl rfl (l' := #[.val (.ref a1), .val (.ref b1)]) rfl k) ?_
  refine Goes.via (B := T2.setTop (mkF m 9 #[.val (.ref a1), .val (.ref b1)] [(.ref b1)])) (fun t k => XS.aloadN X2.here hx rfl (hb hby d2_8) rfl rfl k) ?_
  refine Goes.via (B := T2.setTop (mkF m 10 #[.val (.ref a1), .val (.ref b1)] [(.ref b1), (.ref b1)])) (fun t k => XS.aloadN X2.here hx rfl (hb hby d2_9) rfl rfl k) ?_
  obtain ⟨cl3, Ar3, q3, S3, M3, H3, G3⟩ := Vb1
  have ln3 := len_of S3 M3
  refine Goes.via (B := T2.setTop (mkF m 11 #[.val (.ref a1), .val (.ref b1)] [(.int (1 : Int32)), (.ref b1)])) (fun t k => X2.arraylength hx (by rw [e2]; exact Ar3.1) (State.isArrayOf_alike hZ.alike Ar3.2.1) (g := (mkF m 10 #[.val (.ref a1), .val (.ref b1)] [(.ref b1), (.ref b1)])) rfl rfl (hb hby d2_10) _ (by rw [ln3]; exact k)) ?_
  refine Goes.via (B := T2.setTop (mkF m 12 #[.val (.ref a1), .val (.ref b1)] [(.int (1 : Int32)), (.int (1 : Int32)), (.ref b1)])) (fun t k => XS.iconst X2.here hx rfl (hb hby d2_11) k) ?_
  refine Goes.via (B := T2.setTop (mkF m 13 #[.val (.ref a1), .val (.ref b1)] [(.int (0 : Int32)), (.ref b1)])) (fun t k => XS.isub X2.here hx rfl (hb hby d2_12) rfl k) ?_
  refine Goes.via (B := T2.setTop (mkF m 14 #[.val (.ref a1), .val (.ref b1)] [(.int (0 : Int32)), (.ref b1), (.int (0 : Int32)), (.ref b1)])) (fun t k => XT.dup2 X2.here hx rfl (hb hby d2_13) rfl rfl rfl k) ?_
  obtain ⟨cl4, Ar4, q4, S4, M4, H4, G4⟩ := (⟨cl3, Ar3, q3, S3, M3, H3, G3⟩ : Arv Z h1 b1 k1 .byte (1 : Int32) [(.int y0)] (.int (0 : Int32)))
  have hin4 : ¬ ((0 : Int32) < 0 ∨ cl4.slots.size ≤ ((0 : Int32)).toNatClampNeg) := inb_of S4 ⟨by decide, by decide⟩
  have hat4 : cl4.slots[((0 : Int32)).toNatClampNeg]? = some (.int y0) := H4.at hin4 rfl
  refine Goes.via (B := T2.setTop (mkF m 15 #[.val (.ref a1), .val (.ref b1)] [(.int y0), (.int (0 : Int32)), (.ref b1)])) (fun t k => X2.baloadBytes hx (j := (0 : Int32)) (v := (.int y0)) (by rw [e2]; exact Ar4.1) (State.isArrayOf_alike hZ.alike Ar4.2.1) Ar4.2.2 hin4 hat4 (g := (mkF m 14 #[.val (.ref a1), .val (.ref b1)] [(.int (0 : Int32)), (.ref b1), (.int (0 : Int32)), (.ref b1)])) rfl rfl (hb hby d2_14) _ k) ?_
  refine Goes.via (B := T2.setTop (mkF m 16 #[.val (.ref a1), .val (.ref b1)] [(.int (1 : Int32)), (.int y0), (.int (0 : Int32)), (.ref b1)])) (fun t k => XS.iconst X2.here hx rfl (hb hby d2_15) k) ?_
  refine Goes.via (B := T2.setTop (mkF m 17 #[.val (.ref a1), .val (.ref b1)] [(.int (y0 + (1 : Int32))), (.int (0 : Int32)), (.ref b1)])) (fun t k => XS.iadd X2.here hx rfl (hb hby d2_16) rfl k) ?_
  refine Goes.via (B := T2.setTop (mkF m 18 #[.val (.ref a1), .val (.ref b1)] [(.int ((y0 + (1 : Int32)).toInt8.toInt32)), (.int (0 : Int32)), (.ref b1)])) (fun t k => XS.i2b X2.here hx rfl (hb hby d2_17) rfl k) ?_
  obtain ⟨cl5, Ar5, q5, S5, M5, H5, G5⟩ := (⟨cl4, Ar4, q4, S4, M4, H4, G4⟩ : Arv Z h1 b1 k1 .byte (1 : Int32) [(.int y0)] (.int (0 : Int32)))
  have hin5 : ¬ ((0 : Int32) < 0 ∨ cl5.slots.size ≤ ((0 : Int32)).toNatClampNeg) := inb_of S5 ⟨by decide, by decide⟩
  obtain ⟨T5, h5, X5, e5, W5, st5⟩ := stB X2 hx hZ e2 Ar5 (j := (0 : Int32)) hin5 (g := (mkF m 18 #[.val (.ref a1), .val (.ref b1)] [(.int ((y0 + (1 : Int32)).toInt8.toInt32)), (.int (0 : Int32)), (.ref b1)])) rfl rfl (hb hby d2_18)
  have Vb1_5 := Arv.set Ar5 q5 S5 M5 H5 G5 (fits_nar_byte _) W5 0 rfl (Nat.le_of_ble_eq_true rfl)
  have Va1_5 := Va1_1.other W5 ne_a1_b1
  have Ea1_5 := Ea1_1.wr W5
  have Eb1_5 := B1.wr W5
  replace Vb1_5 : Arv Z h5 b1 k1 .byte (1 : Int32) [(.int (nar .byte ((y0 + (1 : Int32)).toInt8.toInt32)))] (.int (0 : Int32)) := Vb1_5
  have N5 := Fr.snoc X5 N0 g_b1
  have Z5 : n0 ≤ h5.size := Nat.le_trans Z1 (Nat.le_of_eq W5.size.symm)
  have K5 := K1.wr W5 (Or.inr sz_b1)
  refine Goes.via (B := T5.setTop (mkF m 19 #[.val (.ref a1), .val (.ref b1)] [])) st5 ?_
  refine Goes.via (B := T5.setTop (mkF m 20 #[.val (.ref a1), .val (.ref b1)] [(.ref b1)])) (fun t k => XS.aloadN X5.here hx rfl (hb hby d2_19) rfl rfl k) ?_
  exact own_out X5 (v := some (.ref b1)) (fun h => by rw [Bd.returns] at h; cases h) Bd.notSynchronized (fun fs hr => retOut X5 hx Bd.returns rfl (Or.inr (Or.inr (Or.inr (Or.inr ⟨rfl, rfl, rfl⟩)))) (hb hby d2_20) hr) ⟨by rw [g1], N5, (by rw [e5]; exact K5), k1, (by rw [e5, ← g1]; exact Vb1_5)⟩ (by decide) (by decide)
theorem ef_2_2 (m : MethodId) (x0 : Addr) : entryFrame m #[(.ref x0)] 2 = mkF m 0 #[.val (.ref x0), .unset] [] := by first | (simp [entryFrame, mkF, argsToLocals, Value.category]; done) | rfl
def Q2_2 (Z : State) (a1 : Addr) (k1 : ClassId) (y0 : Int32) (y1 : Int32) (h0 : Heap) (n0 : Nat) (v : Option Value) (h : Heap) (L : List Loc) : Prop := v = some (.ref h0.size) ∧ Fr n0 L ∧ Keep h0 h [] ∧ ∃ k, Arv Z h h0.size k .byte (2 : Int32) [(.int y0), (.int (nar .byte ((y1 + (1 : Int32)).toInt8.toInt32)))] (.int (0 : Int32))
set_option maxRecDepth 65536 in
set_option maxHeartbeats 40000000 in
theorem rm2_2 (l : Launch) (Z : State) (a0 : Array Value) (hw : ∀ d ∈ tables_1, d.before a0 Z = true) (ws : List Jvm.Cond) (a1 : Addr) (k1 : ClassId) (y0 : Int32) (y1 : Int32) (h0 : Heap) (n0 : Nat) (Z0 : n0 ≤ h0.size) (V0 : Arv Z h0 a1 k1 .byte (2 : Int32) [(.int y0), (.int y1)] (.int (0 : Int32))) (B0 : Exa Z h0 a1 "[B") :
    MetFree l (⟨"com/example/highwater/highwater/embedded/Keys", "prefixEnd", "([B)[B"⟩ : MethodName) (head1 (Jvm.Cond.code (⟨"com/example/highwater/highwater/embedded/Keys", "prefixEnd", "([B)[B"⟩ : MethodName) prog_22_method_3_code 2 (some (.array .byte)) :: ws) ({ frames := 1, cells := 1, slots := 2, locals := 14 } : Room)) (fun a U => a = #[(.ref a1)] ∧ Z.Warmed39 U.vm ∧ U.heap = h0) (fun _ _ _ _ _ => True) (fun _ U o U' => ∃ v L, o = .returned v ∧ Q2_2 Z a1 k1 y0 y1 h0 n0 v U'.heap L ∧ FrameEnd U o U' L ({ frames := 1, cells := 1, slots := 2, locals := 14 } : Room).cells ({ frames := 1, cells := 1, slots := 2, locals := 14 } : Room).slots) := by
  refine MetFree.of_bodySF (plainFor_of_name pn_com_example_highwater_highwater_embedded_Keys) hisR ?_
  intro p e s m args below meth c s₁ Bd hml0 hP hK
  obtain ⟨rfl, hZ, hh⟩ := hP
  have hx := Bd.exec
  have hby := Bd.bytes
  have hml : c.maxLocals = 2 := hml0
  have hown : s.vm.findClass "com/example/highwater/highwater/embedded/Keys" = some m.cls := findClass_of_methodNamed Bd.named
  have hnm := (name_of_methodNamed Bd.named Bd.method).1
  have X0 : Stand p l e ({ frames := 1, cells := 1, slots := 2, locals := 14 } : Room) s m #[(.ref a1)] below meth c s₁ [] 0 0 := Stand.of_body Bd
  have e0 : s₁.heap = h0 := by rw [← hh, Bd.state]; rfl
  have N0 := Fr.nil n0
  show Goes p e below (fun s₂ o => ∃ v L, o = .returned v ∧ Q2_2 Z a1 k1 y0 y1 h0 n0 v s₂.heap L ∧ FrameEnd s o s₂ L ({ frames := 1, cells := 1, slots := 2, locals := 14 } : Room).cells ({ frames := 1, cells := 1, slots := 2, locals := 14 } : Room).slots) (s₁.setTop (entryFrame m #[(.ref a1)] 2))
  refine Goes.cast (ef_2_2 m a1) ?_
  have K0 := Keep.refl h0 []
  refine Goes.via (B := s₁.setTop (mkF m 1 #[.val (.ref a1), .unset] [(.ref a1)])) (fun t k => XS.aloadN X0.here hx rfl (hb hby d2_0) rfl rfl k) ?_
  obtain ⟨T1, h1, X1, e1, E1, A1, B1, st1⟩ := cloneH X0 hx hZ hown (hw _ (List.mem_of_getElem? (i := 10) rfl)) (hw _ (List.mem_of_getElem? (i := 11) rfl)) (hw _ (List.mem_of_getElem? (i := 15) rfl)) (hw _ (List.mem_of_getElem? (i := 13) rfl)) (hw _ (List.mem_of_getElem? (i := 14) rfl)) (hw _ (List.mem_of_getElem? (i := 16) rfl)) e0 (V0).arh B0 (g := (mkF m 1 #[.val (.ref a1), .unset] [(.ref a1)])) rfl (by rw [hml]; rfl) rfl (hb hby d2_1) (by decide) (W := 0) (by show 2 * 0 + _ ≤ _; exact Nat.le_of_eq rfl) (by decide) (cap := 2) (by decide) (by decide) (by decide)
  obtain ⟨b1, g1⟩ : ∃ z, z = h0.size := ⟨_, rfl⟩
  rw [← g1] at A1 st1 B1
  have ne_a1_b1 : a1 ≠ b1 := Nat.ne_of_lt (Nat.lt_of_lt_of_le V0.lt (Nat.le_of_eq g1.symm))
  have Va1_1 := V0.ext E1
  have Ea1_1 := B0.ext E1
  have Vb1 : Arv Z h1 b1 k1 .byte (2 : Int32) [(.int y0), (.int y1)] (.int (0 : Int32)) := A1
  have g_b1 : n0 ≤ b1 := Nat.le_trans Z0 (Nat.le_of_eq g1.symm)
  have Z1 : n0 ≤ h1.size := Nat.le_trans Z0 E1.1
  have sz_b1 : h0.size ≤ b1 := Nat.le_trans K0.1 (Nat.le_of_eq g1.symm)
  have K1 := K0.ext E1
  refine Goes.via (B := T1.setTop (mkF m 4 #[.val (.ref a1), .unset] [(.ref b1)])) st1 ?_
  obtain ⟨T2, X2, e2, st2⟩ := castY X1 hx hZ hown (hw _ (List.mem_of_getElem? (i := 17) rfl)) e1 (Ins.self B1) (g := (mkF m 4 #[.val (.ref a1), .unset] [(.ref b1)])) rfl rfl (hb hby d2_4)
  refine Goes.via (B := T2.setTop (mkF m 7 #[.val (.ref a1), .unset] [(.ref b1)])) st2 ?_
  refine Goes.via (B := T2.setTop (mkF m 8 #[.val (.ref a1), .val (.ref b1)] [])) (fun t k => XS.astoreN X2.here hx rfl (hb hby d2_7) rfl rfl (l' := #[.val (.ref a1), .val (.ref b1)]) rfl k) ?_
  refine Goes.via (B := T2.setTop (mkF m 9 #[.val (.ref a1), .val (.ref b1)] [(.ref b1)])) (fun t k => XS.aloadN X2.here hx rfl (hb hby d2_8) rfl rfl k) ?_
  refine Goes.via (B := T2.setTop (mkF m 10 #[.val (.ref a1), .val (.ref b1)] [(.ref b1), (.ref b1)])) (fun t k => XS.aloadN X2.here hx rfl (hb hby d2_9) rfl rfl k) ?_
  obtain ⟨cl3, Ar3, q3, S3, M3, H3, G3⟩ := Vb1
  have ln3 := len_of S3 M3
  refine Goes.via (B := T2.setTop (mkF m 11 #[.val (.ref a1), .val (.ref b1)] [(.int (2 : Int32)), (.ref b1)])) (fun t k => X2.arraylength hx (by rw [e2]; exact Ar3.1) (State.isArrayOf_alike hZ.alike Ar3.2.1) (g := (mkF m 10 #[.val (.ref a1), .val (.ref b1)] [(.ref b1), (.ref b1)])) rfl rfl (hb hby d2_10) _ (by rw [ln3]; exact k)) ?_
  refine Goes.via (B := T2.setTop (mkF m 12 #[.val (.ref a1), .val (.ref b1)] [(.int (1 : Int32)), (.int (2 : Int32)), (.ref b1)])) (fun t k => XS.iconst X2.here hx rfl (hb hby d2_11) k) ?_
  refine Goes.via (B := T2.setTop (mkF m 13 #[.val (.ref a1), .val (.ref b1)] [(.int (1 : Int32)), (.ref b1)])) (fun t k => XS.isub X2.here hx rfl (hb hby d2_12) rfl k) ?_
  refine Goes.via (B := T2.setTop (mkF m 14 #[.val (.ref a1), .val (.ref b1)] [(.int (1 : Int32)), (.ref b1), (.int (1 : Int32)), (.ref b1)])) (fun t k => XT.dup2 X2.here hx rfl (hb hby d2_13) rfl rfl rfl k) ?_
  obtain ⟨cl4, Ar4, q4, S4, M4, H4, G4⟩ := (⟨cl3, Ar3, q3, S3, M3, H3, G3⟩ : Arv Z h1 b1 k1 .byte (2 : Int32) [(.int y0), (.int y1)] (.int (0 : Int32)))
  have hin4 : ¬ ((1 : Int32) < 0 ∨ cl4.slots.size ≤ ((1 : Int32)).toNatClampNeg) := inb_of S4 ⟨by decide, by decide⟩
  have hat4 : cl4.slots[((1 : Int32)).toNatClampNeg]? = some (.int y1) := H4.at hin4 rfl
  refine Goes.via (B := T2.setTop (mkF m 15 #[.val (.ref a1), .val (.ref b1)] [(.int y1), (.int (1 : Int32)), (.ref b1)])) (fun t k => X2.baloadBytes hx (j := (1 : Int32)) (v := (.int y1)) (by rw [e2]; exact Ar4.1) (State.isArrayOf_alike hZ.alike Ar4.2.1) Ar4.2.2 hin4 hat4 (g := (mkF m 14 #[.val (.ref a1), .val (.ref b1)] [(.int (1 : Int32)), (.ref b1), (.int (1 : Int32)), (.ref b1)])) rfl rfl (hb hby d2_14) _ k) ?_
  refine Goes.via (B := T2.setTop (mkF m 16 #[.val (.ref a1), .val (.ref b1)] [(.int (1 : Int32)), (.int y1), (.int (1 : Int32)), (.ref b1)])) (fun t k => XS.iconst X2.here hx rfl (hb hby d2_15) k) ?_
  refine Goes.via (B := T2.setTop (mkF m 17 #[.val (.ref a1), .val (.ref b1)] [(.int (y1 + (1 : Int32))), (.int (1 : Int32)), (.ref b1)])) (fun t k => XS.iadd X2.here hx rfl (hb hby d2_16) rfl k) ?_
  refine Goes.via (B := T2.setTop (mkF m 18 #[.val (.ref a1), .val (.ref b1)] [(.int ((y1 + (1 : Int32)).toInt8.toInt32)), (.int (1 : Int32)), (.ref b1)])) (fun t k => XS.i2b X2.here hx rfl (hb hby d2_17) rfl k) ?_
  obtain ⟨cl5, Ar5, q5, S5, M5, H5, G5⟩ := (⟨cl4, Ar4, q4, S4, M4, H4, G4⟩ : Arv Z h1 b1 k1 .byte (2 : Int32) [(.int y0), (.int y1)] (.int (0 : Int32)))
  have hin5 : ¬ ((1 : Int32) < 0 ∨ cl5.slots.size ≤ ((1 : Int32)).toNatClampNeg) := inb_of S5 ⟨by decide, by decide⟩
  obtain ⟨T5, h5, X5, e5, W5, st5⟩ := stB X2 hx hZ e2 Ar5 (j := (1 : Int32)) hin5 (g := (mkF m 18 #[.val (.ref a1), .val (.ref b1)] [(.int ((y1 + (1 : Int32)).toInt8.toInt32)), (.int (1 : Int32)), (.ref b1)])) rfl rfl (hb hby d2_18)
  have Vb1_5 := Arv.set Ar5 q5 S5 M5 H5 G5 (fits_nar_byte _) W5 1 rfl (Nat.le_of_ble_eq_true rfl)
  have Va1_5 := Va1_1.other W5 ne_a1_b1
  have Ea1_5 := Ea1_1.wr W5
  have Eb1_5 := B1.wr W5
  replace Vb1_5 : Arv Z h5 b1 k1 .byte (2 : Int32) [(.int y0), (.int (nar .byte ((y1 + (1 : Int32)).toInt8.toInt32)))] (.int (0 : Int32)) := Vb1_5
  have N5 := Fr.snoc X5 N0 g_b1
  have Z5 : n0 ≤ h5.size := Nat.le_trans Z1 (Nat.le_of_eq W5.size.symm)
  have K5 := K1.wr W5 (Or.inr sz_b1)
  refine Goes.via (B := T5.setTop (mkF m 19 #[.val (.ref a1), .val (.ref b1)] [])) st5 ?_
  refine Goes.via (B := T5.setTop (mkF m 20 #[.val (.ref a1), .val (.ref b1)] [(.ref b1)])) (fun t k => XS.aloadN X5.here hx rfl (hb hby d2_19) rfl rfl k) ?_
  exact own_out X5 (v := some (.ref b1)) (fun h => by rw [Bd.returns] at h; cases h) Bd.notSynchronized (fun fs hr => retOut X5 hx Bd.returns rfl (Or.inr (Or.inr (Or.inr (Or.inr ⟨rfl, rfl, rfl⟩)))) (hb hby d2_20) hr) ⟨by rw [g1], N5, (by rw [e5]; exact K5), k1, (by rw [e5, ← g1]; exact Vb1_5)⟩ (by decide) (by decide)
theorem ef_2_3 (m : MethodId) (x0 : Addr) : entryFrame m #[(.ref x0)] 2 = mkF m 0 #[.val (.ref x0), .unset] [] := by first | (simp [entryFrame, mkF, argsToLocals, Value.category]; done) | rfl
def Q2_3 (Z : State) (a1 : Addr) (k1 : ClassId) (y0 : Int32) (y1 : Int32) (y2 : Int32) (h0 : Heap) (n0 : Nat) (v : Option Value) (h : Heap) (L : List Loc) : Prop := v = some (.ref h0.size) ∧ Fr n0 L ∧ Keep h0 h [] ∧ ∃ k, Arv Z h h0.size k .byte (3 : Int32) [(.int y0), (.int y1), (.int (nar .byte ((y2 + (1 : Int32)).toInt8.toInt32)))] (.int (0 : Int32))
set_option maxRecDepth 65536 in
set_option maxHeartbeats 40000000 in
theorem rm2_3 (l : Launch) (Z : State) (a0 : Array Value) (hw : ∀ d ∈ tables_1, d.before a0 Z = true) (ws : List Jvm.Cond) (a1 : Addr) (k1 : ClassId) (y0 : Int32) (y1 : Int32) (y2 : Int32) (h0 : Heap) (n0 : Nat) (Z0 : n0 ≤ h0.size) (V0 : Arv Z h0 a1 k1 .byte (3 : Int32) [(.int y0), (.int y1), (.int y2)] (.int (0 : Int32))) (B0 : Exa Z h0 a1 "[B") :
    MetFree l (⟨"com/example/highwater/highwater/embedded/Keys", "prefixEnd", "([B)[B"⟩ : MethodName) (head1 (Jvm.Cond.code (⟨"com/example/highwater/highwater/embedded/Keys", "prefixEnd", "([B)[B"⟩ : MethodName) prog_22_method_3_code 2 (some (.array .byte)) :: ws) ({ frames := 1, cells := 1, slots := 3, locals := 14 } : Room)) (fun a U => a = #[(.ref a1)] ∧ Z.Warmed39 U.vm ∧ U.heap = h0) (fun _ _ _ _ _ => True) (fun _ U o U' => ∃ v L, o = .returned v ∧ Q2_3 Z a1 k1 y0 y1 y2 h0 n0 v U'.heap L ∧ FrameEnd U o U' L ({ frames := 1, cells := 1, slots := 3, locals := 14 } : Room).cells ({ frames := 1, cells := 1, slots := 3, locals := 14 } : Room).slots) := by
  refine MetFree.of_bodySF (plainFor_of_name pn_com_example_highwater_highwater_embedded_Keys) hisR ?_
  intro p e s m args below meth c s₁ Bd hml0 hP hK
  obtain ⟨rfl, hZ, hh⟩ := hP
  have hx := Bd.exec
  have hby := Bd.bytes
  have hml : c.maxLocals = 2 := hml0
  have hown : s.vm.findClass "com/example/highwater/highwater/embedded/Keys" = some m.cls := findClass_of_methodNamed Bd.named
  have hnm := (name_of_methodNamed Bd.named Bd.method).1
  have X0 : Stand p l e ({ frames := 1, cells := 1, slots := 3, locals := 14 } : Room) s m #[(.ref a1)] below meth c s₁ [] 0 0 := Stand.of_body Bd
  have e0 : s₁.heap = h0 := by rw [← hh, Bd.state]; rfl
  have N0 := Fr.nil n0
  show Goes p e below (fun s₂ o => ∃ v L, o = .returned v ∧ Q2_3 Z a1 k1 y0 y1 y2 h0 n0 v s₂.heap L ∧ FrameEnd s o s₂ L ({ frames := 1, cells := 1, slots := 3, locals := 14 } : Room).cells ({ frames := 1, cells := 1, slots := 3, locals := 14 } : Room).slots) (s₁.setTop (entryFrame m #[(.ref a1)] 2))
  refine Goes.cast (ef_2_3 m a1) ?_
  have K0 := Keep.refl h0 []
  refine Goes.via (B := s₁.setTop (mkF m 1 #[.val (.ref a1), .unset] [(.ref a1)])) (fun t k => XS.aloadN X0.here hx rfl (hb hby d2_0) rfl rfl k) ?_
  obtain ⟨T1, h1, X1, e1, E1, A1, B1, st1⟩ := cloneH X0 hx hZ hown (hw _ (List.mem_of_getElem? (i := 10) rfl)) (hw _ (List.mem_of_getElem? (i := 11) rfl)) (hw _ (List.mem_of_getElem? (i := 15) rfl)) (hw _ (List.mem_of_getElem? (i := 13) rfl)) (hw _ (List.mem_of_getElem? (i := 14) rfl)) (hw _ (List.mem_of_getElem? (i := 16) rfl)) e0 (V0).arh B0 (g := (mkF m 1 #[.val (.ref a1), .unset] [(.ref a1)])) rfl (by rw [hml]; rfl) rfl (hb hby d2_1) (by decide) (W := 0) (by show 2 * 0 + _ ≤ _; exact Nat.le_of_eq rfl) (by decide) (cap := 3) (by decide) (by decide) (by decide)
  obtain ⟨b1, g1⟩ : ∃ z, z = h0.size := ⟨_, rfl⟩
  rw [← g1] at A1 st1 B1
  have ne_a1_b1 : a1 ≠ b1 := Nat.ne_of_lt (Nat.lt_of_lt_of_le V0.lt (Nat.le_of_eq g1.symm))
  have Va1_1 := V0.ext E1
  have Ea1_1 := B0.ext E1
  have Vb1 : Arv Z h1 b1 k1 .byte (3 : Int32) [(.int y0), (.int y1), (.int y2)] (.int (0 : Int32)) := A1
  have g_b1 : n0 ≤ b1 := Nat.le_trans Z0 (Nat.le_of_eq g1.symm)
  have Z1 : n0 ≤ h1.size := Nat.le_trans Z0 E1.1
  have sz_b1 : h0.size ≤ b1 := Nat.le_trans K0.1 (Nat.le_of_eq g1.symm)
  have K1 := K0.ext E1
  refine Goes.via (B := T1.setTop (mkF m 4 #[.val (.ref a1), .unset] [(.ref b1)])) st1 ?_
  obtain ⟨T2, X2, e2, st2⟩ := castY X1 hx hZ hown (hw _ (List.mem_of_getElem? (i := 17) rfl)) e1 (Ins.self B1) (g := (mkF m 4 #[.val (.ref a1), .unset] [(.ref b1)])) rfl rfl (hb hby d2_4)
  refine Goes.via (B := T2.setTop (mkF m 7 #[.val (.ref a1), .unset] [(.ref b1)])) st2 ?_
  refine Goes.via (B := T2.setTop (mkF m 8 #[.val (.ref a1), .val (.ref b1)] [])) (fun t k => XS.astoreN X2.here hx rfl (hb hby d2_7) rfl rfl (l' := #[.val (.ref a1), .val (.ref b1)]) rfl k) ?_
  refine Goes.via (B := T2.setTop (mkF m 9 #[.val (.ref a1), .val (.ref b1)] [(.ref b1)])) (fun t k => XS.aloadN X2.here hx rfl (hb hby d2_8) rfl rfl k) ?_
  refine Goes.via (B := T2.setTop (mkF m 10 #[.val (.ref a1), .val (.ref b1)] [(.ref b1), (.ref b1)])) (fun t k => XS.aloadN X2.here hx rfl (hb hby d2_9) rfl rfl k) ?_
  obtain ⟨cl3, Ar3, q3, S3, M3, H3, G3⟩ := Vb1
  have ln3 := len_of S3 M3
  refine Goes.via (B := T2.setTop (mkF m 11 #[.val (.ref a1), .val (.ref b1)] [(.int (3 : Int32)), (.ref b1)])) (fun t k => X2.arraylength hx (by rw [e2]; exact Ar3.1) (State.isArrayOf_alike hZ.alike Ar3.2.1) (g := (mkF m 10 #[.val (.ref a1), .val (.ref b1)] [(.ref b1), (.ref b1)])) rfl rfl (hb hby d2_10) _ (by rw [ln3]; exact k)) ?_
  refine Goes.via (B := T2.setTop (mkF m 12 #[.val (.ref a1), .val (.ref b1)] [(.int (1 : Int32)), (.int (3 : Int32)), (.ref b1)])) (fun t k => XS.iconst X2.here hx rfl (hb hby d2_11) k) ?_
  refine Goes.via (B := T2.setTop (mkF m 13 #[.val (.ref a1), .val (.ref b1)] [(.int (2 : Int32)), (.ref b1)])) (fun t k => XS.isub X2.here hx rfl (hb hby d2_12) rfl k) ?_
  refine Goes.via (B := T2.setTop (mkF m 14 #[.val (.ref a1), .val (.ref b1)] [(.int (2 : Int32)), (.ref b1), (.int (2 : Int32)), (.ref b1)])) (fun t k => XT.dup2 X2.here hx rfl (hb hby d2_13) rfl rfl rfl k) ?_
  obtain ⟨cl4, Ar4, q4, S4, M4, H4, G4⟩ := (⟨cl3, Ar3, q3, S3, M3, H3, G3⟩ : Arv Z h1 b1 k1 .byte (3 : Int32) [(.int y0), (.int y1), (.int y2)] (.int (0 : Int32)))
  have hin4 : ¬ ((2 : Int32) < 0 ∨ cl4.slots.size ≤ ((2 : Int32)).toNatClampNeg) := inb_of S4 ⟨by decide, by decide⟩
  have hat4 : cl4.slots[((2 : Int32)).toNatClampNeg]? = some (.int y2) := H4.at hin4 rfl
  refine Goes.via (B := T2.setTop (mkF m 15 #[.val (.ref a1), .val (.ref b1)] [(.int y2), (.int (2 : Int32)), (.ref b1)])) (fun t k => X2.baloadBytes hx (j := (2 : Int32)) (v := (.int y2)) (by rw [e2]; exact Ar4.1) (State.isArrayOf_alike hZ.alike Ar4.2.1) Ar4.2.2 hin4 hat4 (g := (mkF m 14 #[.val (.ref a1), .val (.ref b1)] [(.int (2 : Int32)), (.ref b1), (.int (2 : Int32)), (.ref b1)])) rfl rfl (hb hby d2_14) _ k) ?_
  refine Goes.via (B := T2.setTop (mkF m 16 #[.val (.ref a1), .val (.ref b1)] [(.int (1 : Int32)), (.int y2), (.int (2 : Int32)), (.ref b1)])) (fun t k => XS.iconst X2.here hx rfl (hb hby d2_15) k) ?_
  refine Goes.via (B := T2.setTop (mkF m 17 #[.val (.ref a1), .val (.ref b1)] [(.int (y2 + (1 : Int32))), (.int (2 : Int32)), (.ref b1)])) (fun t k => XS.iadd X2.here hx rfl (hb hby d2_16) rfl k) ?_
  refine Goes.via (B := T2.setTop (mkF m 18 #[.val (.ref a1), .val (.ref b1)] [(.int ((y2 + (1 : Int32)).toInt8.toInt32)), (.int (2 : Int32)), (.ref b1)])) (fun t k => XS.i2b X2.here hx rfl (hb hby d2_17) rfl k) ?_
  obtain ⟨cl5, Ar5, q5, S5, M5, H5, G5⟩ := (⟨cl4, Ar4, q4, S4, M4, H4, G4⟩ : Arv Z h1 b1 k1 .byte (3 : Int32) [(.int y0), (.int y1), (.int y2)] (.int (0 : Int32)))
  have hin5 : ¬ ((2 : Int32) < 0 ∨ cl5.slots.size ≤ ((2 : Int32)).toNatClampNeg) := inb_of S5 ⟨by decide, by decide⟩
  obtain ⟨T5, h5, X5, e5, W5, st5⟩ := stB X2 hx hZ e2 Ar5 (j := (2 : Int32)) hin5 (g := (mkF m 18 #[.val (.ref a1), .val (.ref b1)] [(.int ((y2 + (1 : Int32)).toInt8.toInt32)), (.int (2 : Int32)), (.ref b1)])) rfl rfl (hb hby d2_18)
  have Vb1_5 := Arv.set Ar5 q5 S5 M5 H5 G5 (fits_nar_byte _) W5 2 rfl (Nat.le_of_ble_eq_true rfl)
  have Va1_5 := Va1_1.other W5 ne_a1_b1
  have Ea1_5 := Ea1_1.wr W5
  have Eb1_5 := B1.wr W5
  replace Vb1_5 : Arv Z h5 b1 k1 .byte (3 : Int32) [(.int y0), (.int y1), (.int (nar .byte ((y2 + (1 : Int32)).toInt8.toInt32)))] (.int (0 : Int32)) := Vb1_5
  have N5 := Fr.snoc X5 N0 g_b1
  have Z5 : n0 ≤ h5.size := Nat.le_trans Z1 (Nat.le_of_eq W5.size.symm)
  have K5 := K1.wr W5 (Or.inr sz_b1)
  refine Goes.via (B := T5.setTop (mkF m 19 #[.val (.ref a1), .val (.ref b1)] [])) st5 ?_
  refine Goes.via (B := T5.setTop (mkF m 20 #[.val (.ref a1), .val (.ref b1)] [(.ref b1)])) (fun t k => XS.aloadN X5.here hx rfl (hb hby d2_19) rfl rfl k) ?_
  exact own_out X5 (v := some (.ref b1)) (fun h => by rw [Bd.returns] at h; cases h) Bd.notSynchronized (fun fs hr => retOut X5 hx Bd.returns rfl (Or.inr (Or.inr (Or.inr (Or.inr ⟨rfl, rfl, rfl⟩)))) (hb hby d2_20) hr) ⟨by rw [g1], N5, (by rw [e5]; exact K5), k1, (by rw [e5, ← g1]; exact Vb1_5)⟩ (by decide) (by decide)
theorem ef_2_4 (m : MethodId) (x0 : Addr) : entryFrame m #[(.ref x0)] 2 = mkF m 0 #[.val (.ref x0), .unset] [] := by first | (simp [entryFrame, mkF, argsToLocals, Value.category]; done) | rfl
def Q2_4 (Z : State) (a1 : Addr) (k1 : ClassId) (y0 : Int32) (y1 : Int32) (y2 : Int32) (y3 : Int32) (h0 : Heap) (n0 : Nat) (v : Option Value) (h : Heap) (L : List Loc) : Prop := v = some (.ref h0.size) ∧ Fr n0 L ∧ Keep h0 h [] ∧ ∃ k, Arv Z h h0.size k .byte (4 : Int32) [(.int y0), (.int y1), (.int y2), (.int (nar .byte ((y3 + (1 : Int32)).toInt8.toInt32)))] (.int (0 : Int32))
set_option maxRecDepth 65536 in
set_option maxHeartbeats 40000000 in
theorem rm2_4 (l : Launch) (Z : State) (a0 : Array Value) (hw : ∀ d ∈ tables_1, d.before a0 Z = true) (ws : List Jvm.Cond) (a1 : Addr) (k1 : ClassId) (y0 : Int32) (y1 : Int32) (y2 : Int32) (y3 : Int32) (h0 : Heap) (n0 : Nat) (Z0 : n0 ≤ h0.size) (V0 : Arv Z h0 a1 k1 .byte (4 : Int32) [(.int y0), (.int y1), (.int y2), (.int y3)] (.int (0 : Int32))) (B0 : Exa Z h0 a1 "[B") :
    MetFree l (⟨"com/example/highwater/highwater/embedded/Keys", "prefixEnd", "([B)[B"⟩ : MethodName) (head1 (Jvm.Cond.code (⟨"com/example/highwater/highwater/embedded/Keys", "prefixEnd", "([B)[B"⟩ : MethodName) prog_22_method_3_code 2 (some (.array .byte)) :: ws) ({ frames := 1, cells := 1, slots := 4, locals := 14 } : Room)) (fun a U => a = #[(.ref a1)] ∧ Z.Warmed39 U.vm ∧ U.heap = h0) (fun _ _ _ _ _ => True) (fun _ U o U' => ∃ v L, o = .returned v ∧ Q2_4 Z a1 k1 y0 y1 y2 y3 h0 n0 v U'.heap L ∧ FrameEnd U o U' L ({ frames := 1, cells := 1, slots := 4, locals := 14 } : Room).cells ({ frames := 1, cells := 1, slots := 4, locals := 14 } : Room).slots) := by
  refine MetFree.of_bodySF (plainFor_of_name pn_com_example_highwater_highwater_embedded_Keys) hisR ?_
  intro p e s m args below meth c s₁ Bd hml0 hP hK
  obtain ⟨rfl, hZ, hh⟩ := hP
  have hx := Bd.exec
  have hby := Bd.bytes
  have hml : c.maxLocals = 2 := hml0
  have hown : s.vm.findClass "com/example/highwater/highwater/embedded/Keys" = some m.cls := findClass_of_methodNamed Bd.named
  have hnm := (name_of_methodNamed Bd.named Bd.method).1
  have X0 : Stand p l e ({ frames := 1, cells := 1, slots := 4, locals := 14 } : Room) s m #[(.ref a1)] below meth c s₁ [] 0 0 := Stand.of_body Bd
  have e0 : s₁.heap = h0 := by rw [← hh, Bd.state]; rfl
  have N0 := Fr.nil n0
  show Goes p e below (fun s₂ o => ∃ v L, o = .returned v ∧ Q2_4 Z a1 k1 y0 y1 y2 y3 h0 n0 v s₂.heap L ∧ FrameEnd s o s₂ L ({ frames := 1, cells := 1, slots := 4, locals := 14 } : Room).cells ({ frames := 1, cells := 1, slots := 4, locals := 14 } : Room).slots) (s₁.setTop (entryFrame m #[(.ref a1)] 2))
  refine Goes.cast (ef_2_4 m a1) ?_
  have K0 := Keep.refl h0 []
  refine Goes.via (B := s₁.setTop (mkF m 1 #[.val (.ref a1), .unset] [(.ref a1)])) (fun t k => XS.aloadN X0.here hx rfl (hb hby d2_0) rfl rfl k) ?_
  obtain ⟨T1, h1, X1, e1, E1, A1, B1, st1⟩ := cloneH X0 hx hZ hown (hw _ (List.mem_of_getElem? (i := 10) rfl)) (hw _ (List.mem_of_getElem? (i := 11) rfl)) (hw _ (List.mem_of_getElem? (i := 15) rfl)) (hw _ (List.mem_of_getElem? (i := 13) rfl)) (hw _ (List.mem_of_getElem? (i := 14) rfl)) (hw _ (List.mem_of_getElem? (i := 16) rfl)) e0 (V0).arh B0 (g := (mkF m 1 #[.val (.ref a1), .unset] [(.ref a1)])) rfl (by rw [hml]; rfl) rfl (hb hby d2_1) (by decide) (W := 0) (by show 2 * 0 + _ ≤ _; exact Nat.le_of_eq rfl) (by decide) (cap := 4) (by decide) (by decide) (by decide)
  obtain ⟨b1, g1⟩ : ∃ z, z = h0.size := ⟨_, rfl⟩
  rw [← g1] at A1 st1 B1
  have ne_a1_b1 : a1 ≠ b1 := Nat.ne_of_lt (Nat.lt_of_lt_of_le V0.lt (Nat.le_of_eq g1.symm))
  have Va1_1 := V0.ext E1
  have Ea1_1 := B0.ext E1
  have Vb1 : Arv Z h1 b1 k1 .byte (4 : Int32) [(.int y0), (.int y1), (.int y2), (.int y3)] (.int (0 : Int32)) := A1
  have g_b1 : n0 ≤ b1 := Nat.le_trans Z0 (Nat.le_of_eq g1.symm)
  have Z1 : n0 ≤ h1.size := Nat.le_trans Z0 E1.1
  have sz_b1 : h0.size ≤ b1 := Nat.le_trans K0.1 (Nat.le_of_eq g1.symm)
  have K1 := K0.ext E1
  refine Goes.via (B := T1.setTop (mkF m 4 #[.val (.ref a1), .unset] [(.ref b1)])) st1 ?_
  obtain ⟨T2, X2, e2, st2⟩ := castY X1 hx hZ hown (hw _ (List.mem_of_getElem? (i := 17) rfl)) e1 (Ins.self B1) (g := (mkF m 4 #[.val (.ref a1), .unset] [(.ref b1)])) rfl rfl (hb hby d2_4)
  refine Goes.via (B := T2.setTop (mkF m 7 #[.val (.ref a1), .unset] [(.ref b1)])) st2 ?_
  refine Goes.via (B := T2.setTop (mkF m 8 #[.val (.ref a1), .val (.ref b1)] [])) (fun t k => XS.astoreN X2.here hx rfl (hb hby d2_7) rfl rfl (l' := #[.val (.ref a1), .val (.ref b1)]) rfl k) ?_
  refine Goes.via (B := T2.setTop (mkF m 9 #[.val (.ref a1), .val (.ref b1)] [(.ref b1)])) (fun t k => XS.aloadN X2.here hx rfl (hb hby d2_8) rfl rfl k) ?_
  refine Goes.via (B := T2.setTop (mkF m 10 #[.val (.ref a1), .val (.ref b1)] [(.ref b1), (.ref b1)])) (fun t k => XS.aloadN X2.here hx rfl (hb hby d2_9) rfl rfl k) ?_
  obtain ⟨cl3, Ar3, q3, S3, M3, H3, G3⟩ := Vb1
  have ln3 := len_of S3 M3
  refine Goes.via (B := T2.setTop (mkF m 11 #[.val (.ref a1), .val (.ref b1)] [(.int (4 : Int32)), (.ref b1)])) (fun t k => X2.arraylength hx (by rw [e2]; exact Ar3.1) (State.isArrayOf_alike hZ.alike Ar3.2.1) (g := (mkF m 10 #[.val (.ref a1), .val (.ref b1)] [(.ref b1), (.ref b1)])) rfl rfl (hb hby d2_10) _ (by rw [ln3]; exact k)) ?_
  refine Goes.via (B := T2.setTop (mkF m 12 #[.val (.ref a1), .val (.ref b1)] [(.int (1 : Int32)), (.int (4 : Int32)), (.ref b1)])) (fun t k => XS.iconst X2.here hx rfl (hb hby d2_11) k) ?_
  refine Goes.via (B := T2.setTop (mkF m 13 #[.val (.ref a1), .val (.ref b1)] [(.int (3 : Int32)), (.ref b1)])) (fun t k => XS.isub X2.here hx rfl (hb hby d2_12) rfl k) ?_
  refine Goes.via (B := T2.setTop (mkF m 14 #[.val (.ref a1), .val (.ref b1)] [(.int (3 : Int32)), (.ref b1), (.int (3 : Int32)), (.ref b1)])) (fun t k => XT.dup2 X2.here hx rfl (hb hby d2_13) rfl rfl rfl k) ?_
  obtain ⟨cl4, Ar4, q4, S4, M4, H4, G4⟩ := (⟨cl3, Ar3, q3, S3, M3, H3, G3⟩ : Arv Z h1 b1 k1 .byte (4 : Int32) [(.int y0), (.int y1), (.int y2), (.int y3)] (.int (0 : Int32)))
  have hin4 : ¬ ((3 : Int32) < 0 ∨ cl4.slots.size ≤ ((3 : Int32)).toNatClampNeg) := inb_of S4 ⟨by decide, by decide⟩
  have hat4 : cl4.slots[((3 : Int32)).toNatClampNeg]? = some (.int y3) := H4.at hin4 rfl
  refine Goes.via (B := T2.setTop (mkF m 15 #[.val (.ref a1), .val (.ref b1)] [(.int y3), (.int (3 : Int32)), (.ref b1)])) (fun t k => X2.baloadBytes hx (j := (3 : Int32)) (v := (.int y3)) (by rw [e2]; exact Ar4.1) (State.isArrayOf_alike hZ.alike Ar4.2.1) Ar4.2.2 hin4 hat4 (g := (mkF m 14 #[.val (.ref a1), .val (.ref b1)] [(.int (3 : Int32)), (.ref b1), (.int (3 : Int32)), (.ref b1)])) rfl rfl (hb hby d2_14) _ k) ?_
  refine Goes.via (B := T2.setTop (mkF m 16 #[.val (.ref a1), .val (.ref b1)] [(.int (1 : Int32)), (.int y3), (.int (3 : Int32)), (.ref b1)])) (fun t k => XS.iconst X2.here hx rfl (hb hby d2_15) k) ?_
  refine Goes.via (B := T2.setTop (mkF m 17 #[.val (.ref a1), .val (.ref b1)] [(.int (y3 + (1 : Int32))), (.int (3 : Int32)), (.ref b1)])) (fun t k => XS.iadd X2.here hx rfl (hb hby d2_16) rfl k) ?_
  refine Goes.via (B := T2.setTop (mkF m 18 #[.val (.ref a1), .val (.ref b1)] [(.int ((y3 + (1 : Int32)).toInt8.toInt32)), (.int (3 : Int32)), (.ref b1)])) (fun t k => XS.i2b X2.here hx rfl (hb hby d2_17) rfl k) ?_
  obtain ⟨cl5, Ar5, q5, S5, M5, H5, G5⟩ := (⟨cl4, Ar4, q4, S4, M4, H4, G4⟩ : Arv Z h1 b1 k1 .byte (4 : Int32) [(.int y0), (.int y1), (.int y2), (.int y3)] (.int (0 : Int32)))
  have hin5 : ¬ ((3 : Int32) < 0 ∨ cl5.slots.size ≤ ((3 : Int32)).toNatClampNeg) := inb_of S5 ⟨by decide, by decide⟩
  obtain ⟨T5, h5, X5, e5, W5, st5⟩ := stB X2 hx hZ e2 Ar5 (j := (3 : Int32)) hin5 (g := (mkF m 18 #[.val (.ref a1), .val (.ref b1)] [(.int ((y3 + (1 : Int32)).toInt8.toInt32)), (.int (3 : Int32)), (.ref b1)])) rfl rfl (hb hby d2_18)
  have Vb1_5 := Arv.set Ar5 q5 S5 M5 H5 G5 (fits_nar_byte _) W5 3 rfl (Nat.le_of_ble_eq_true rfl)
  have Va1_5 := Va1_1.other W5 ne_a1_b1
  have Ea1_5 := Ea1_1.wr W5
  have Eb1_5 := B1.wr W5
  replace Vb1_5 : Arv Z h5 b1 k1 .byte (4 : Int32) [(.int y0), (.int y1), (.int y2), (.int (nar .byte ((y3 + (1 : Int32)).toInt8.toInt32)))] (.int (0 : Int32)) := Vb1_5
  have N5 := Fr.snoc X5 N0 g_b1
  have Z5 : n0 ≤ h5.size := Nat.le_trans Z1 (Nat.le_of_eq W5.size.symm)
  have K5 := K1.wr W5 (Or.inr sz_b1)
  refine Goes.via (B := T5.setTop (mkF m 19 #[.val (.ref a1), .val (.ref b1)] [])) st5 ?_
  refine Goes.via (B := T5.setTop (mkF m 20 #[.val (.ref a1), .val (.ref b1)] [(.ref b1)])) (fun t k => XS.aloadN X5.here hx rfl (hb hby d2_19) rfl rfl k) ?_
  exact own_out X5 (v := some (.ref b1)) (fun h => by rw [Bd.returns] at h; cases h) Bd.notSynchronized (fun fs hr => retOut X5 hx Bd.returns rfl (Or.inr (Or.inr (Or.inr (Or.inr ⟨rfl, rfl, rfl⟩)))) (hb hby d2_20) hr) ⟨by rw [g1], N5, (by rw [e5]; exact K5), k1, (by rw [e5, ← g1]; exact Vb1_5)⟩ (by decide) (by decide)
theorem d3_0 : decode method_4_code 0 = .ok (.aload_n 0, 1) := by decide +kernel
theorem d3_1 : decode method_4_code 1 = .ok (.ifnull 15, 3) := by decide +kernel
theorem d3_4 : decode method_4_code 4 = .ok (.aload_n 0, 1) := by decide +kernel
theorem d3_5 : decode method_4_code 5 = .ok (.arraylength, 1) := by decide +kernel
theorem d3_6 : decode method_4_code 6 = .ok (.iload_n 2, 1) := by decide +kernel
theorem d3_7 : decode method_4_code 7 = .ok (.if_icmp .ne 9, 3) := by decide +kernel
theorem d3_10 : decode method_4_code 10 = .ok (.aload_n 1, 1) := by decide +kernel
theorem d3_11 : decode method_4_code 11 = .ok (.arraylength, 1) := by decide +kernel
theorem d3_12 : decode method_4_code 12 = .ok (.iload_n 2, 1) := by decide +kernel
theorem d3_13 : decode method_4_code 13 = .ok (.if_icmp .eq 5, 3) := by decide +kernel
theorem d3_18 : decode method_4_code 18 = .ok (.aload_n 0, 1) := by decide +kernel
theorem d3_19 : decode method_4_code 19 = .ok (.iconst 0, 1) := by decide +kernel
theorem d3_20 : decode method_4_code 20 = .ok (.baload, 1) := by decide +kernel
theorem d3_21 : decode method_4_code 21 = .ok (.aload_n 1, 1) := by decide +kernel
theorem d3_22 : decode method_4_code 22 = .ok (.iconst 0, 1) := by decide +kernel
theorem d3_23 : decode method_4_code 23 = .ok (.baload, 1) := by decide +kernel
theorem d3_24 : decode method_4_code 24 = .ok (.if_icmp .ne 49, 3) := by decide +kernel
theorem d3_27 : decode method_4_code 27 = .ok (.iload_n 2, 1) := by decide +kernel
theorem d3_28 : decode method_4_code 28 = .ok (.iconst 2, 1) := by decide +kernel
theorem d3_29 : decode method_4_code 29 = .ok (.if_icmp .lt 12, 3) := by decide +kernel
theorem d3_41 : decode method_4_code 41 = .ok (.iload_n 2, 1) := by decide +kernel
theorem d3_42 : decode method_4_code 42 = .ok (.iconst 3, 1) := by decide +kernel
theorem d3_43 : decode method_4_code 43 = .ok (.if_icmp .lt 12, 3) := by decide +kernel
theorem d3_55 : decode method_4_code 55 = .ok (.iload_n 2, 1) := by decide +kernel
theorem d3_56 : decode method_4_code 56 = .ok (.iconst 4, 1) := by decide +kernel
theorem d3_57 : decode method_4_code 57 = .ok (.if_icmp .lt 12, 3) := by decide +kernel
theorem d3_69 : decode method_4_code 69 = .ok (.iconst 1, 1) := by decide +kernel
theorem d3_70 : decode method_4_code 70 = .ok (.goto 4, 3) := by decide +kernel
theorem d3_74 : decode method_4_code 74 = .ok (.ireturn, 1) := by decide +kernel
theorem ef_3_1 (m : MethodId) (x0 : Addr) (x1 : Addr) (x2 : Int32) : entryFrame m #[(.ref x0), (.ref x1), (.int x2)] 3 = mkF m 0 #[.val (.ref x0), .val (.ref x1), .val (.int x2)] [] := by first | (simp [entryFrame, mkF, argsToLocals, Value.category]; done) | rfl
def Q3_1 (Z : State) (a1 : Addr) (a2 : Addr) (k1 : ClassId) (k2 : ClassId) (y0 : Int32) (h0 : Heap) (n0 : Nat) (v : Option Value) (h : Heap) (L : List Loc) : Prop := v = some (.int (1 : Int32)) ∧ Fr n0 L ∧ h = h0
set_option maxRecDepth 65536 in
set_option maxHeartbeats 40000000 in
theorem rm3_1 (l : Launch) (Z : State) (a0 : Array Value) (hw : ∀ d ∈ tables_1, d.before a0 Z = true) (ws : List Jvm.Cond) (a1 : Addr) (a2 : Addr) (k1 : ClassId) (k2 : ClassId) (y0 : Int32) (h0 : Heap) (n0 : Nat) (Z0 : n0 ≤ h0.size) (V0 : Arv Z h0 a1 k1 .byte (1 : Int32) [(.int y0)] (.int (0 : Int32))) (U0 : Arv Z h0 a2 k2 .byte (1 : Int32) [(.int y0)] (.int (0 : Int32))) :
    MetFree l (⟨"com/example/highwater/highwater/embedded/KeysPrefixEndPinLaw", "same", "([B[BI)Z"⟩ : MethodName) (head1 (Jvm.Cond.code (⟨"com/example/highwater/highwater/embedded/KeysPrefixEndPinLaw", "same", "([B[BI)Z"⟩ : MethodName) method_4_code 3 (some .boolean) :: ws) ({ frames := 0, cells := 0, slots := 0, locals := 0 } : Room)) (fun a U => a = #[(.ref a1), (.ref a2), (.int (1 : Int32))] ∧ Z.Warmed39 U.vm ∧ U.heap = h0) (fun _ _ _ _ _ => True) (fun _ U o U' => ∃ v L, o = .returned v ∧ Q3_1 Z a1 a2 k1 k2 y0 h0 n0 v U'.heap L ∧ FrameEnd U o U' L ({ frames := 0, cells := 0, slots := 0, locals := 0 } : Room).cells ({ frames := 0, cells := 0, slots := 0, locals := 0 } : Room).slots) := by
  refine MetFree.of_bodySF (plainFor_of_name pn_com_example_highwater_highwater_embedded_KeysPrefixEndPinLaw) hisR ?_
  intro p e s m args below meth c s₁ Bd hml0 hP hK
  obtain ⟨rfl, hZ, hh⟩ := hP
  have hx := Bd.exec
  have hby := Bd.bytes
  have hml : c.maxLocals = 3 := hml0
  have hown : s.vm.findClass "com/example/highwater/highwater/embedded/KeysPrefixEndPinLaw" = some m.cls := findClass_of_methodNamed Bd.named
  have hnm := (name_of_methodNamed Bd.named Bd.method).1
  have X0 : Stand p l e ({ frames := 0, cells := 0, slots := 0, locals := 0 } : Room) s m #[(.ref a1), (.ref a2), (.int (1 : Int32))] below meth c s₁ [] 0 0 := Stand.of_body Bd
  have e0 : s₁.heap = h0 := by rw [← hh, Bd.state]; rfl
  have N0 := Fr.nil n0
  show Goes p e below (fun s₂ o => ∃ v L, o = .returned v ∧ Q3_1 Z a1 a2 k1 k2 y0 h0 n0 v s₂.heap L ∧ FrameEnd s o s₂ L ({ frames := 0, cells := 0, slots := 0, locals := 0 } : Room).cells ({ frames := 0, cells := 0, slots := 0, locals := 0 } : Room).slots) (s₁.setTop (entryFrame m #[(.ref a1), (.ref a2), (.int (1 : Int32))] 3))
  refine Goes.cast (ef_3_1 m a1 a2 (1 : Int32)) ?_
  refine Goes.via (B := s₁.setTop (mkF m 1 #[.val (.ref a1), .val (.ref a2), .val (.int (1 : Int32))] [(.ref a1)])) (fun t k => XS.aloadN X0.here hx rfl (hb hby d3_0) rfl rfl k) ?_
  refine Goes.via (B := s₁.setTop (mkF m 4 #[.val (.ref a1), .val (.ref a2), .val (.int (1 : Int32))] [])) (fun t k => XS.ifnullNo X0.here hx rfl (hb hby d3_1) rfl k) ?_
  refine Goes.via (B := s₁.setTop (mkF m 5 #[.val (.ref a1), .val (.ref a2), .val (.int (1 : Int32))] [(.ref a1)])) (fun t k => XS.aloadN X0.here hx rfl (hb hby d3_4) rfl rfl k) ?_
  obtain ⟨cl1, Ar1, q1, S1, M1, H1, G1⟩ := V0
  have ln1 := len_of S1 M1
  refine Goes.via (B := s₁.setTop (mkF m 6 #[.val (.ref a1), .val (.ref a2), .val (.int (1 : Int32))] [(.int (1 : Int32))])) (fun t k => X0.arraylength hx (by rw [e0]; exact Ar1.1) (State.isArrayOf_alike hZ.alike Ar1.2.1) (g := (mkF m 5 #[.val (.ref a1), .val (.ref a2), .val (.int (1 : Int32))] [(.ref a1)])) rfl rfl (hb hby d3_5) _ (by rw [ln1]; exact k)) ?_
  refine Goes.via (B := s₁.setTop (mkF m 7 #[.val (.ref a1), .val (.ref a2), .val (.int (1 : Int32))] [(.int (1 : Int32)), (.int (1 : Int32))])) (fun t k => XS.iloadN X0.here hx rfl (hb hby d3_6) rfl k) ?_
  refine Goes.via (B := s₁.setTop (mkF m 10 #[.val (.ref a1), .val (.ref a2), .val (.int (1 : Int32))] [])) (fun t k => XS.icmpNo X0.here hx rfl (hb hby d3_7) rfl (teq (by decide : (1 : Int32) = (1 : Int32))).2 k) ?_
  refine Goes.via (B := s₁.setTop (mkF m 11 #[.val (.ref a1), .val (.ref a2), .val (.int (1 : Int32))] [(.ref a2)])) (fun t k => XS.aloadN X0.here hx rfl (hb hby d3_10) rfl rfl k) ?_
  obtain ⟨cl2, Ar2, q2, S2, M2, H2, G2⟩ := U0
  have ln2 := len_of S2 M2
  refine Goes.via (B := s₁.setTop (mkF m 12 #[.val (.ref a1), .val (.ref a2), .val (.int (1 : Int32))] [(.int (1 : Int32))])) (fun t k => X0.arraylength hx (by rw [e0]; exact Ar2.1) (State.isArrayOf_alike hZ.alike Ar2.2.1) (g := (mkF m 11 #[.val (.ref a1), .val (.ref a2), .val (.int (1 : Int32))] [(.ref a2)])) rfl rfl (hb hby d3_11) _ (by rw [ln2]; exact k)) ?_
  refine Goes.via (B := s₁.setTop (mkF m 13 #[.val (.ref a1), .val (.ref a2), .val (.int (1 : Int32))] [(.int (1 : Int32)), (.int (1 : Int32))])) (fun t k => XS.iloadN X0.here hx rfl (hb hby d3_12) rfl k) ?_
  refine Goes.via (B := s₁.setTop (mkF m 18 #[.val (.ref a1), .val (.ref a2), .val (.int (1 : Int32))] [])) (fun t k => XS.icmpYes X0.here hx rfl (pc0 := 13) (pc' := 18) rfl (hb hby d3_13) rfl (teq (by decide : (1 : Int32) = (1 : Int32))).1 (by decide) (by decide) k) ?_
  refine Goes.via (B := s₁.setTop (mkF m 19 #[.val (.ref a1), .val (.ref a2), .val (.int (1 : Int32))] [(.ref a1)])) (fun t k => XS.aloadN X0.here hx rfl (hb hby d3_18) rfl rfl k) ?_
  refine Goes.via (B := s₁.setTop (mkF m 20 #[.val (.ref a1), .val (.ref a2), .val (.int (1 : Int32))] [(.int (0 : Int32)), (.ref a1)])) (fun t k => XS.iconst X0.here hx rfl (hb hby d3_19) k) ?_
  obtain ⟨cl3, Ar3, q3, S3, M3, H3, G3⟩ := (⟨cl1, Ar1, q1, S1, M1, H1, G1⟩ : Arv Z h0 a1 k1 .byte (1 : Int32) [(.int y0)] (.int (0 : Int32)))
  have hin3 : ¬ ((0 : Int32) < 0 ∨ cl3.slots.size ≤ ((0 : Int32)).toNatClampNeg) := inb_of S3 ⟨by decide, by decide⟩
  have hat3 : cl3.slots[((0 : Int32)).toNatClampNeg]? = some (.int y0) := H3.at hin3 rfl
  refine Goes.via (B := s₁.setTop (mkF m 21 #[.val (.ref a1), .val (.ref a2), .val (.int (1 : Int32))] [(.int y0)])) (fun t k => X0.baloadBytes hx (j := (0 : Int32)) (v := (.int y0)) (by rw [e0]; exact Ar3.1) (State.isArrayOf_alike hZ.alike Ar3.2.1) Ar3.2.2 hin3 hat3 (g := (mkF m 20 #[.val (.ref a1), .val (.ref a2), .val (.int (1 : Int32))] [(.int (0 : Int32)), (.ref a1)])) rfl rfl (hb hby d3_20) _ k) ?_
  refine Goes.via (B := s₁.setTop (mkF m 22 #[.val (.ref a1), .val (.ref a2), .val (.int (1 : Int32))] [(.ref a2), (.int y0)])) (fun t k => XS.aloadN X0.here hx rfl (hb hby d3_21) rfl rfl k) ?_
  refine Goes.via (B := s₁.setTop (mkF m 23 #[.val (.ref a1), .val (.ref a2), .val (.int (1 : Int32))] [(.int (0 : Int32)), (.ref a2), (.int y0)])) (fun t k => XS.iconst X0.here hx rfl (hb hby d3_22) k) ?_
  obtain ⟨cl4, Ar4, q4, S4, M4, H4, G4⟩ := (⟨cl2, Ar2, q2, S2, M2, H2, G2⟩ : Arv Z h0 a2 k2 .byte (1 : Int32) [(.int y0)] (.int (0 : Int32)))
  have hin4 : ¬ ((0 : Int32) < 0 ∨ cl4.slots.size ≤ ((0 : Int32)).toNatClampNeg) := inb_of S4 ⟨by decide, by decide⟩
  have hat4 : cl4.slots[((0 : Int32)).toNatClampNeg]? = some (.int y0) := H4.at hin4 rfl
  refine Goes.via (B := s₁.setTop (mkF m 24 #[.val (.ref a1), .val (.ref a2), .val (.int (1 : Int32))] [(.int y0), (.int y0)])) (fun t k => X0.baloadBytes hx (j := (0 : Int32)) (v := (.int y0)) (by rw [e0]; exact Ar4.1) (State.isArrayOf_alike hZ.alike Ar4.2.1) Ar4.2.2 hin4 hat4 (g := (mkF m 23 #[.val (.ref a1), .val (.ref a2), .val (.int (1 : Int32))] [(.int (0 : Int32)), (.ref a2), (.int y0)])) rfl rfl (hb hby d3_23) _ k) ?_
  refine Goes.via (B := s₁.setTop (mkF m 27 #[.val (.ref a1), .val (.ref a2), .val (.int (1 : Int32))] [])) (fun t k => XS.icmpNo X0.here hx rfl (hb hby d3_24) rfl (teq rfl).2 k) ?_
  refine Goes.via (B := s₁.setTop (mkF m 28 #[.val (.ref a1), .val (.ref a2), .val (.int (1 : Int32))] [(.int (1 : Int32))])) (fun t k => XS.iloadN X0.here hx rfl (hb hby d3_27) rfl k) ?_
  refine Goes.via (B := s₁.setTop (mkF m 29 #[.val (.ref a1), .val (.ref a2), .val (.int (1 : Int32))] [(.int (2 : Int32)), (.int (1 : Int32))])) (fun t k => XS.iconst X0.here hx rfl (hb hby d3_28) k) ?_
  refine Goes.via (B := s₁.setTop (mkF m 41 #[.val (.ref a1), .val (.ref a2), .val (.int (1 : Int32))] [])) (fun t k => XS.icmpYes X0.here hx rfl (pc0 := 29) (pc' := 41) rfl (hb hby d3_29) rfl (tlt (by decide : (1 : Int32) < (2 : Int32))).1 (by decide) (by decide) k) ?_
  refine Goes.via (B := s₁.setTop (mkF m 42 #[.val (.ref a1), .val (.ref a2), .val (.int (1 : Int32))] [(.int (1 : Int32))])) (fun t k => XS.iloadN X0.here hx rfl (hb hby d3_41) rfl k) ?_
  refine Goes.via (B := s₁.setTop (mkF m 43 #[.val (.ref a1), .val (.ref a2), .val (.int (1 : Int32))] [(.int (3 : Int32)), (.int (1 : Int32))])) (fun t k => XS.iconst X0.here hx rfl (hb hby d3_42) k) ?_
  refine Goes.via (B := s₁.setTop (mkF m 55 #[.val (.ref a1), .val (.ref a2), .val (.int (1 : Int32))] [])) (fun t k => XS.icmpYes X0.here hx rfl (pc0 := 43) (pc' := 55) rfl (hb hby d3_43) rfl (tlt (by decide : (1 : Int32) < (3 : Int32))).1 (by decide) (by decide) k) ?_
  refine Goes.via (B := s₁.setTop (mkF m 56 #[.val (.ref a1), .val (.ref a2), .val (.int (1 : Int32))] [(.int (1 : Int32))])) (fun t k => XS.iloadN X0.here hx rfl (hb hby d3_55) rfl k) ?_
  refine Goes.via (B := s₁.setTop (mkF m 57 #[.val (.ref a1), .val (.ref a2), .val (.int (1 : Int32))] [(.int (4 : Int32)), (.int (1 : Int32))])) (fun t k => XS.iconst X0.here hx rfl (hb hby d3_56) k) ?_
  refine Goes.via (B := s₁.setTop (mkF m 69 #[.val (.ref a1), .val (.ref a2), .val (.int (1 : Int32))] [])) (fun t k => XS.icmpYes X0.here hx rfl (pc0 := 57) (pc' := 69) rfl (hb hby d3_57) rfl (tlt (by decide : (1 : Int32) < (4 : Int32))).1 (by decide) (by decide) k) ?_
  refine Goes.via (B := s₁.setTop (mkF m 70 #[.val (.ref a1), .val (.ref a2), .val (.int (1 : Int32))] [(.int (1 : Int32))])) (fun t k => XS.iconst X0.here hx rfl (hb hby d3_69) k) ?_
  refine Goes.via (B := s₁.setTop (mkF m 74 #[.val (.ref a1), .val (.ref a2), .val (.int (1 : Int32))] [(.int (1 : Int32))])) (fun t k => XS.goto X0.here hx rfl (pc0 := 70) (pc' := 74) rfl (hb hby d3_70) (by decide) (by decide) k) ?_
  exact own_out X0 (v := some (.int (1 : Int32))) (fun h => by rw [Bd.returns] at h; cases h) Bd.notSynchronized (fun fs hr => retOut X0 hx Bd.returns rfl (Or.inl ⟨rfl, Or.inr (Or.inl rfl), _, rfl⟩) (hb hby d3_74) hr) ⟨rfl, N0, e0⟩ (by decide) (by decide)
theorem d3_32 : decode method_4_code 32 = .ok (.aload_n 0, 1) := by decide +kernel
theorem d3_33 : decode method_4_code 33 = .ok (.iconst 1, 1) := by decide +kernel
theorem d3_34 : decode method_4_code 34 = .ok (.baload, 1) := by decide +kernel
theorem d3_35 : decode method_4_code 35 = .ok (.aload_n 1, 1) := by decide +kernel
theorem d3_36 : decode method_4_code 36 = .ok (.iconst 1, 1) := by decide +kernel
theorem d3_37 : decode method_4_code 37 = .ok (.baload, 1) := by decide +kernel
theorem d3_38 : decode method_4_code 38 = .ok (.if_icmp .ne 35, 3) := by decide +kernel
theorem ef_3_2 (m : MethodId) (x0 : Addr) (x1 : Addr) (x2 : Int32) : entryFrame m #[(.ref x0), (.ref x1), (.int x2)] 3 = mkF m 0 #[.val (.ref x0), .val (.ref x1), .val (.int x2)] [] := by first | (simp [entryFrame, mkF, argsToLocals, Value.category]; done) | rfl
def Q3_2 (Z : State) (a1 : Addr) (a2 : Addr) (k1 : ClassId) (k2 : ClassId) (y0 : Int32) (y1 : Int32) (h0 : Heap) (n0 : Nat) (v : Option Value) (h : Heap) (L : List Loc) : Prop := v = some (.int (1 : Int32)) ∧ Fr n0 L ∧ h = h0
set_option maxRecDepth 65536 in
set_option maxHeartbeats 40000000 in
theorem rm3_2 (l : Launch) (Z : State) (a0 : Array Value) (hw : ∀ d ∈ tables_1, d.before a0 Z = true) (ws : List Jvm.Cond) (a1 : Addr) (a2 : Addr) (k1 : ClassId) (k2 : ClassId) (y0 : Int32) (y1 : Int32) (h0 : Heap) (n0 : Nat) (Z0 : n0 ≤ h0.size) (V0 : Arv Z h0 a1 k1 .byte (2 : Int32) [(.int y0), (.int y1)] (.int (0 : Int32))) (U0 : Arv Z h0 a2 k2 .byte (2 : Int32) [(.int y0), (.int y1)] (.int (0 : Int32))) :
    MetFree l (⟨"com/example/highwater/highwater/embedded/KeysPrefixEndPinLaw", "same", "([B[BI)Z"⟩ : MethodName) (head1 (Jvm.Cond.code (⟨"com/example/highwater/highwater/embedded/KeysPrefixEndPinLaw", "same", "([B[BI)Z"⟩ : MethodName) method_4_code 3 (some .boolean) :: ws) ({ frames := 0, cells := 0, slots := 0, locals := 0 } : Room)) (fun a U => a = #[(.ref a1), (.ref a2), (.int (2 : Int32))] ∧ Z.Warmed39 U.vm ∧ U.heap = h0) (fun _ _ _ _ _ => True) (fun _ U o U' => ∃ v L, o = .returned v ∧ Q3_2 Z a1 a2 k1 k2 y0 y1 h0 n0 v U'.heap L ∧ FrameEnd U o U' L ({ frames := 0, cells := 0, slots := 0, locals := 0 } : Room).cells ({ frames := 0, cells := 0, slots := 0, locals := 0 } : Room).slots) := by
  refine MetFree.of_bodySF (plainFor_of_name pn_com_example_highwater_highwater_embedded_KeysPrefixEndPinLaw) hisR ?_
  intro p e s m args below meth c s₁ Bd hml0 hP hK
  obtain ⟨rfl, hZ, hh⟩ := hP
  have hx := Bd.exec
  have hby := Bd.bytes
  have hml : c.maxLocals = 3 := hml0
  have hown : s.vm.findClass "com/example/highwater/highwater/embedded/KeysPrefixEndPinLaw" = some m.cls := findClass_of_methodNamed Bd.named
  have hnm := (name_of_methodNamed Bd.named Bd.method).1
  have X0 : Stand p l e ({ frames := 0, cells := 0, slots := 0, locals := 0 } : Room) s m #[(.ref a1), (.ref a2), (.int (2 : Int32))] below meth c s₁ [] 0 0 := Stand.of_body Bd
  have e0 : s₁.heap = h0 := by rw [← hh, Bd.state]; rfl
  have N0 := Fr.nil n0
  show Goes p e below (fun s₂ o => ∃ v L, o = .returned v ∧ Q3_2 Z a1 a2 k1 k2 y0 y1 h0 n0 v s₂.heap L ∧ FrameEnd s o s₂ L ({ frames := 0, cells := 0, slots := 0, locals := 0 } : Room).cells ({ frames := 0, cells := 0, slots := 0, locals := 0 } : Room).slots) (s₁.setTop (entryFrame m #[(.ref a1), (.ref a2), (.int (2 : Int32))] 3))
  refine Goes.cast (ef_3_2 m a1 a2 (2 : Int32)) ?_
  refine Goes.via (B := s₁.setTop (mkF m 1 #[.val (.ref a1), .val (.ref a2), .val (.int (2 : Int32))] [(.ref a1)])) (fun t k => XS.aloadN X0.here hx rfl (hb hby d3_0) rfl rfl k) ?_
  refine Goes.via (B := s₁.setTop (mkF m 4 #[.val (.ref a1), .val (.ref a2), .val (.int (2 : Int32))] [])) (fun t k => XS.ifnullNo X0.here hx rfl (hb hby d3_1) rfl k) ?_
  refine Goes.via (B := s₁.setTop (mkF m 5 #[.val (.ref a1), .val (.ref a2), .val (.int (2 : Int32))] [(.ref a1)])) (fun t k => XS.aloadN X0.here hx rfl (hb hby d3_4) rfl rfl k) ?_
  obtain ⟨cl1, Ar1, q1, S1, M1, H1, G1⟩ := V0
  have ln1 := len_of S1 M1
  refine Goes.via (B := s₁.setTop (mkF m 6 #[.val (.ref a1), .val (.ref a2), .val (.int (2 : Int32))] [(.int (2 : Int32))])) (fun t k => X0.arraylength hx (by rw [e0]; exact Ar1.1) (State.isArrayOf_alike hZ.alike Ar1.2.1) (g := (mkF m 5 #[.val (.ref a1), .val (.ref a2), .val (.int (2 : Int32))] [(.ref a1)])) rfl rfl (hb hby d3_5) _ (by rw [ln1]; exact k)) ?_
  refine Goes.via (B := s₁.setTop (mkF m 7 #[.val (.ref a1), .val (.ref a2), .val (.int (2 : Int32))] [(.int (2 : Int32)), (.int (2 : Int32))])) (fun t k => XS.iloadN X0.here hx rfl (hb hby d3_6) rfl k) ?_
  refine Goes.via (B := s₁.setTop (mkF m 10 #[.val (.ref a1), .val (.ref a2), .val (.int (2 : Int32))] [])) (fun t k => XS.icmpNo X0.here hx rfl (hb hby d3_7) rfl (teq (by decide : (2 : Int32) = (2 : Int32))).2 k) ?_
  refine Goes.via (B := s₁.setTop (mkF m 11 #[.val (.ref a1), .val (.ref a2), .val (.int (2 : Int32))] [(.ref a2)])) (fun t k => XS.aloadN X0.here hx rfl (hb hby d3_10) rfl rfl k) ?_
  obtain ⟨cl2, Ar2, q2, S2, M2, H2, G2⟩ := U0
  have ln2 := len_of S2 M2
  refine Goes.via (B := s₁.setTop (mkF m 12 #[.val (.ref a1), .val (.ref a2), .val (.int (2 : Int32))] [(.int (2 : Int32))])) (fun t k => X0.arraylength hx (by rw [e0]; exact Ar2.1) (State.isArrayOf_alike hZ.alike Ar2.2.1) (g := (mkF m 11 #[.val (.ref a1), .val (.ref a2), .val (.int (2 : Int32))] [(.ref a2)])) rfl rfl (hb hby d3_11) _ (by rw [ln2]; exact k)) ?_
  refine Goes.via (B := s₁.setTop (mkF m 13 #[.val (.ref a1), .val (.ref a2), .val (.int (2 : Int32))] [(.int (2 : Int32)), (.int (2 : Int32))])) (fun t k => XS.iloadN X0.here hx rfl (hb hby d3_12) rfl k) ?_
  refine Goes.via (B := s₁.setTop (mkF m 18 #[.val (.ref a1), .val (.ref a2), .val (.int (2 : Int32))] [])) (fun t k => XS.icmpYes X0.here hx rfl (pc0 := 13) (pc' := 18) rfl (hb hby d3_13) rfl (teq (by decide : (2 : Int32) = (2 : Int32))).1 (by decide) (by decide) k) ?_
  refine Goes.via (B := s₁.setTop (mkF m 19 #[.val (.ref a1), .val (.ref a2), .val (.int (2 : Int32))] [(.ref a1)])) (fun t k => XS.aloadN X0.here hx rfl (hb hby d3_18) rfl rfl k) ?_
  refine Goes.via (B := s₁.setTop (mkF m 20 #[.val (.ref a1), .val (.ref a2), .val (.int (2 : Int32))] [(.int (0 : Int32)), (.ref a1)])) (fun t k => XS.iconst X0.here hx rfl (hb hby d3_19) k) ?_
  obtain ⟨cl3, Ar3, q3, S3, M3, H3, G3⟩ := (⟨cl1, Ar1, q1, S1, M1, H1, G1⟩ : Arv Z h0 a1 k1 .byte (2 : Int32) [(.int y0), (.int y1)] (.int (0 : Int32)))
  have hin3 : ¬ ((0 : Int32) < 0 ∨ cl3.slots.size ≤ ((0 : Int32)).toNatClampNeg) := inb_of S3 ⟨by decide, by decide⟩
  have hat3 : cl3.slots[((0 : Int32)).toNatClampNeg]? = some (.int y0) := H3.at hin3 rfl
  refine Goes.via (B := s₁.setTop (mkF m 21 #[.val (.ref a1), .val (.ref a2), .val (.int (2 : Int32))] [(.int y0)])) (fun t k => X0.baloadBytes hx (j := (0 : Int32)) (v := (.int y0)) (by rw [e0]; exact Ar3.1) (State.isArrayOf_alike hZ.alike Ar3.2.1) Ar3.2.2 hin3 hat3 (g := (mkF m 20 #[.val (.ref a1), .val (.ref a2), .val (.int (2 : Int32))] [(.int (0 : Int32)), (.ref a1)])) rfl rfl (hb hby d3_20) _ k) ?_
  refine Goes.via (B := s₁.setTop (mkF m 22 #[.val (.ref a1), .val (.ref a2), .val (.int (2 : Int32))] [(.ref a2), (.int y0)])) (fun t k => XS.aloadN X0.here hx rfl (hb hby d3_21) rfl rfl k) ?_
  refine Goes.via (B := s₁.setTop (mkF m 23 #[.val (.ref a1), .val (.ref a2), .val (.int (2 : Int32))] [(.int (0 : Int32)), (.ref a2), (.int y0)])) (fun t k => XS.iconst X0.here hx rfl (hb hby d3_22) k) ?_
  obtain ⟨cl4, Ar4, q4, S4, M4, H4, G4⟩ := (⟨cl2, Ar2, q2, S2, M2, H2, G2⟩ : Arv Z h0 a2 k2 .byte (2 : Int32) [(.int y0), (.int y1)] (.int (0 : Int32)))
  have hin4 : ¬ ((0 : Int32) < 0 ∨ cl4.slots.size ≤ ((0 : Int32)).toNatClampNeg) := inb_of S4 ⟨by decide, by decide⟩
  have hat4 : cl4.slots[((0 : Int32)).toNatClampNeg]? = some (.int y0) := H4.at hin4 rfl
  refine Goes.via (B := s₁.setTop (mkF m 24 #[.val (.ref a1), .val (.ref a2), .val (.int (2 : Int32))] [(.int y0), (.int y0)])) (fun t k => X0.baloadBytes hx (j := (0 : Int32)) (v := (.int y0)) (by rw [e0]; exact Ar4.1) (State.isArrayOf_alike hZ.alike Ar4.2.1) Ar4.2.2 hin4 hat4 (g := (mkF m 23 #[.val (.ref a1), .val (.ref a2), .val (.int (2 : Int32))] [(.int (0 : Int32)), (.ref a2), (.int y0)])) rfl rfl (hb hby d3_23) _ k) ?_
  refine Goes.via (B := s₁.setTop (mkF m 27 #[.val (.ref a1), .val (.ref a2), .val (.int (2 : Int32))] [])) (fun t k => XS.icmpNo X0.here hx rfl (hb hby d3_24) rfl (teq rfl).2 k) ?_
  refine Goes.via (B := s₁.setTop (mkF m 28 #[.val (.ref a1), .val (.ref a2), .val (.int (2 : Int32))] [(.int (2 : Int32))])) (fun t k => XS.iloadN X0.here hx rfl (hb hby d3_27) rfl k) ?_
  refine Goes.via (B := s₁.setTop (mkF m 29 #[.val (.ref a1), .val (.ref a2), .val (.int (2 : Int32))] [(.int (2 : Int32)), (.int (2 : Int32))])) (fun t k => XS.iconst X0.here hx rfl (hb hby d3_28) k) ?_
  refine Goes.via (B := s₁.setTop (mkF m 32 #[.val (.ref a1), .val (.ref a2), .val (.int (2 : Int32))] [])) (fun t k => XS.icmpNo X0.here hx rfl (hb hby d3_29) rfl (flt (by decide : ¬ (2 : Int32) < (2 : Int32))).1 k) ?_
  refine Goes.via (B := s₁.setTop (mkF m 33 #[.val (.ref a1), .val (.ref a2), .val (.int (2 : Int32))] [(.ref a1)])) (fun t k => XS.aloadN X0.here hx rfl (hb hby d3_32) rfl rfl k) ?_
  refine Goes.via (B := s₁.setTop (mkF m 34 #[.val (.ref a1), .val (.ref a2), .val (.int (2 : Int32))] [(.int (1 : Int32)), (.ref a1)])) (fun t k => XS.iconst X0.here hx rfl (hb hby d3_33) k) ?_
  obtain ⟨cl5, Ar5, q5, S5, M5, H5, G5⟩ := (⟨cl3, Ar3, q3, S3, M3, H3, G3⟩ : Arv Z h0 a1 k1 .byte (2 : Int32) [(.int y0), (.int y1)] (.int (0 : Int32)))
  have hin5 : ¬ ((1 : Int32) < 0 ∨ cl5.slots.size ≤ ((1 : Int32)).toNatClampNeg) := inb_of S5 ⟨by decide, by decide⟩
  have hat5 : cl5.slots[((1 : Int32)).toNatClampNeg]? = some (.int y1) := H5.at hin5 rfl
  refine Goes.via (B := s₁.setTop (mkF m 35 #[.val (.ref a1), .val (.ref a2), .val (.int (2 : Int32))] [(.int y1)])) (fun t k => X0.baloadBytes hx (j := (1 : Int32)) (v := (.int y1)) (by rw [e0]; exact Ar5.1) (State.isArrayOf_alike hZ.alike Ar5.2.1) Ar5.2.2 hin5 hat5 (g := (mkF m 34 #[.val (.ref a1), .val (.ref a2), .val (.int (2 : Int32))] [(.int (1 : Int32)), (.ref a1)])) rfl rfl (hb hby d3_34) _ k) ?_
  refine Goes.via (B := s₁.setTop (mkF m 36 #[.val (.ref a1), .val (.ref a2), .val (.int (2 : Int32))] [(.ref a2), (.int y1)])) (fun t k => XS.aloadN X0.here hx rfl (hb hby d3_35) rfl rfl k) ?_
  refine Goes.via (B := s₁.setTop (mkF m 37 #[.val (.ref a1), .val (.ref a2), .val (.int (2 : Int32))] [(.int (1 : Int32)), (.ref a2), (.int y1)])) (fun t k => XS.iconst X0.here hx rfl (hb hby d3_36) k) ?_
  obtain ⟨cl6, Ar6, q6, S6, M6, H6, G6⟩ := (⟨cl4, Ar4, q4, S4, M4, H4, G4⟩ : Arv Z h0 a2 k2 .byte (2 : Int32) [(.int y0), (.int y1)] (.int (0 : Int32)))
  have hin6 : ¬ ((1 : Int32) < 0 ∨ cl6.slots.size ≤ ((1 : Int32)).toNatClampNeg) := inb_of S6 ⟨by decide, by decide⟩
  have hat6 : cl6.slots[((1 : Int32)).toNatClampNeg]? = some (.int y1) := H6.at hin6 rfl
  refine Goes.via (B := s₁.setTop (mkF m 38 #[.val (.ref a1), .val (.ref a2), .val (.int (2 : Int32))] [(.int y1), (.int y1)])) (fun t k => X0.baloadBytes hx (j := (1 : Int32)) (v := (.int y1)) (by rw [e0]; exact Ar6.1) (State.isArrayOf_alike hZ.alike Ar6.2.1) Ar6.2.2 hin6 hat6 (g := (mkF m 37 #[.val (.ref a1), .val (.ref a2), .val (.int (2 : Int32))] [(.int (1 : Int32)), (.ref a2), (.int y1)])) rfl rfl (hb hby d3_37) _ k) ?_
  refine Goes.via (B := s₁.setTop (mkF m 41 #[.val (.ref a1), .val (.ref a2), .val (.int (2 : Int32))] [])) (fun t k => XS.icmpNo X0.here hx rfl (hb hby d3_38) rfl (teq rfl).2 k) ?_
  refine Goes.via (B := s₁.setTop (mkF m 42 #[.val (.ref a1), .val (.ref a2), .val (.int (2 : Int32))] [(.int (2 : Int32))])) (fun t k => XS.iloadN X0.here hx rfl (hb hby d3_41) rfl k) ?_
  refine Goes.via (B := s₁.setTop (mkF m 43 #[.val (.ref a1), .val (.ref a2), .val (.int (2 : Int32))] [(.int (3 : Int32)), (.int (2 : Int32))])) (fun t k => XS.iconst X0.here hx rfl (hb hby d3_42) k) ?_
  refine Goes.via (B := s₁.setTop (mkF m 55 #[.val (.ref a1), .val (.ref a2), .val (.int (2 : Int32))] [])) (fun t k => XS.icmpYes X0.here hx rfl (pc0 := 43) (pc' := 55) rfl (hb hby d3_43) rfl (tlt (by decide : (2 : Int32) < (3 : Int32))).1 (by decide) (by decide) k) ?_
  refine Goes.via (B := s₁.setTop (mkF m 56 #[.val (.ref a1), .val (.ref a2), .val (.int (2 : Int32))] [(.int (2 : Int32))])) (fun t k => XS.iloadN X0.here hx rfl (hb hby d3_55) rfl k) ?_
  refine Goes.via (B := s₁.setTop (mkF m 57 #[.val (.ref a1), .val (.ref a2), .val (.int (2 : Int32))] [(.int (4 : Int32)), (.int (2 : Int32))])) (fun t k => XS.iconst X0.here hx rfl (hb hby d3_56) k) ?_
  refine Goes.via (B := s₁.setTop (mkF m 69 #[.val (.ref a1), .val (.ref a2), .val (.int (2 : Int32))] [])) (fun t k => XS.icmpYes X0.here hx rfl (pc0 := 57) (pc' := 69) rfl (hb hby d3_57) rfl (tlt (by decide : (2 : Int32) < (4 : Int32))).1 (by decide) (by decide) k) ?_
  refine Goes.via (B := s₁.setTop (mkF m 70 #[.val (.ref a1), .val (.ref a2), .val (.int (2 : Int32))] [(.int (1 : Int32))])) (fun t k => XS.iconst X0.here hx rfl (hb hby d3_69) k) ?_
  refine Goes.via (B := s₁.setTop (mkF m 74 #[.val (.ref a1), .val (.ref a2), .val (.int (2 : Int32))] [(.int (1 : Int32))])) (fun t k => XS.goto X0.here hx rfl (pc0 := 70) (pc' := 74) rfl (hb hby d3_70) (by decide) (by decide) k) ?_
  exact own_out X0 (v := some (.int (1 : Int32))) (fun h => by rw [Bd.returns] at h; cases h) Bd.notSynchronized (fun fs hr => retOut X0 hx Bd.returns rfl (Or.inl ⟨rfl, Or.inr (Or.inl rfl), _, rfl⟩) (hb hby d3_74) hr) ⟨rfl, N0, e0⟩ (by decide) (by decide)
theorem d3_46 : decode method_4_code 46 = .ok (.aload_n 0, 1) := by decide +kernel
theorem d3_47 : decode method_4_code 47 = .ok (.iconst 2, 1) := by decide +kernel
theorem d3_48 : decode method_4_code 48 = .ok (.baload, 1) := by decide +kernel
theorem d3_49 : decode method_4_code 49 = .ok (.aload_n 1, 1) := by decide +kernel
theorem d3_50 : decode method_4_code 50 = .ok (.iconst 2, 1) := by decide +kernel
theorem d3_51 : decode method_4_code 51 = .ok (.baload, 1) := by decide +kernel
theorem d3_52 : decode method_4_code 52 = .ok (.if_icmp .ne 21, 3) := by decide +kernel
theorem ef_3_3 (m : MethodId) (x0 : Addr) (x1 : Addr) (x2 : Int32) : entryFrame m #[(.ref x0), (.ref x1), (.int x2)] 3 = mkF m 0 #[.val (.ref x0), .val (.ref x1), .val (.int x2)] [] := by first | (simp [entryFrame, mkF, argsToLocals, Value.category]; done) | rfl
def Q3_3 (Z : State) (a1 : Addr) (a2 : Addr) (k1 : ClassId) (k2 : ClassId) (y0 : Int32) (y1 : Int32) (y2 : Int32) (h0 : Heap) (n0 : Nat) (v : Option Value) (h : Heap) (L : List Loc) : Prop := v = some (.int (1 : Int32)) ∧ Fr n0 L ∧ h = h0
set_option maxRecDepth 65536 in
set_option maxHeartbeats 40000000 in
theorem rm3_3 (l : Launch) (Z : State) (a0 : Array Value) (hw : ∀ d ∈ tables_1, d.before a0 Z = true) (ws : List Jvm.Cond) (a1 : Addr) (a2 : Addr) (k1 : ClassId) (k2 : ClassId) (y0 : Int32) (y1 : Int32) (y2 : Int32) (h0 : Heap) (n0 : Nat) (Z0 : n0 ≤ h0.size) (V0 : Arv Z h0 a1 k1 .byte (3 : Int32) [(.int y0), (.int y1), (.int y2)] (.int (0 : Int32))) (U0 : Arv Z h0 a2 k2 .byte (3 : Int32) [(.int y0), (.int y1), (.int y2)] (.int (0 : Int32))) :
    MetFree l (⟨"com/example/highwater/highwater/embedded/KeysPrefixEndPinLaw", "same", "([B[BI)Z"⟩ : MethodName) (head1 (Jvm.Cond.code (⟨"com/example/highwater/highwater/embedded/KeysPrefixEndPinLaw", "same", "([B[BI)Z"⟩ : MethodName) method_4_code 3 (some .boolean) :: ws) ({ frames := 0, cells := 0, slots := 0, locals := 0 } : Room)) (fun a U => a = #[(.ref a1), (.ref a2), (.int (3 : Int32))] ∧ Z.Warmed39 U.vm ∧ U.heap = h0) (fun _ _ _ _ _ => True) (fun _ U o U' => ∃ v L, o = .returned v ∧ Q3_3 Z a1 a2 k1 k2 y0 y1 y2 h0 n0 v U'.heap L ∧ FrameEnd U o U' L ({ frames := 0, cells := 0, slots := 0, locals := 0 } : Room).cells ({ frames := 0, cells := 0, slots := 0, locals := 0 } : Room).slots) := by
  refine MetFree.of_bodySF (plainFor_of_name pn_com_example_highwater_highwater_embedded_KeysPrefixEndPinLaw) hisR ?_
  intro p e s m args below meth c s₁ Bd hml0 hP hK
  obtain ⟨rfl, hZ, hh⟩ := hP
  have hx := Bd.exec
  have hby := Bd.bytes
  have hml : c.maxLocals = 3 := hml0
  have hown : s.vm.findClass "com/example/highwater/highwater/embedded/KeysPrefixEndPinLaw" = some m.cls := findClass_of_methodNamed Bd.named
  have hnm := (name_of_methodNamed Bd.named Bd.method).1
  have X0 : Stand p l e ({ frames := 0, cells := 0, slots := 0, locals := 0 } : Room) s m #[(.ref a1), (.ref a2), (.int (3 : Int32))] below meth c s₁ [] 0 0 := Stand.of_body Bd
  have e0 : s₁.heap = h0 := by rw [← hh, Bd.state]; rfl
  have N0 := Fr.nil n0
  show Goes p e below (fun s₂ o => ∃ v L, o = .returned v ∧ Q3_3 Z a1 a2 k1 k2 y0 y1 y2 h0 n0 v s₂.heap L ∧ FrameEnd s o s₂ L ({ frames := 0, cells := 0, slots := 0, locals := 0 } : Room).cells ({ frames := 0, cells := 0, slots := 0, locals := 0 } : Room).slots) (s₁.setTop (entryFrame m #[(.ref a1), (.ref a2), (.int (3 : Int32))] 3))
  refine Goes.cast (ef_3_3 m a1 a2 (3 : Int32)) ?_
  refine Goes.via (B := s₁.setTop (mkF m 1 #[.val (.ref a1), .val (.ref a2), .val (.int (3 : Int32))] [(.ref a1)])) (fun t k => XS.aloadN X0.here hx rfl (hb hby d3_0) rfl rfl k) ?_
  refine Goes.via (B := s₁.setTop (mkF m 4 #[.val (.ref a1), .val (.ref a2), .val (.int (3 : Int32))] [])) (fun t k => XS.ifnullNo X0.here hx rfl (hb hby d3_1) rfl k) ?_
  refine Goes.via (B := s₁.setTop (mkF m 5 #[.val (.ref a1), .val (.ref a2), .val (.int (3 : Int32))] [(.ref a1)])) (fun t k => XS.aloadN X0.here hx rfl (hb hby d3_4) rfl rfl k) ?_
  obtain ⟨cl1, Ar1, q1, S1, M1, H1, G1⟩ := V0
  have ln1 := len_of S1 M1
  refine Goes.via (B := s₁.setTop (mkF m 6 #[.val (.ref a1), .val (.ref a2), .val (.int (3 : Int32))] [(.int (3 : Int32))])) (fun t k => X0.arraylength hx (by rw [e0]; exact Ar1.1) (State.isArrayOf_alike hZ.alike Ar1.2.1) (g := (mkF m 5 #[.val (.ref a1), .val (.ref a2), .val (.int (3 : Int32))] [(.ref a1)])) rfl rfl (hb hby d3_5) _ (by rw [ln1]; exact k)) ?_
  refine Goes.via (B := s₁.setTop (mkF m 7 #[.val (.ref a1), .val (.ref a2), .val (.int (3 : Int32))] [(.int (3 : Int32)), (.int (3 : Int32))])) (fun t k => XS.iloadN X0.here hx rfl (hb hby d3_6) rfl k) ?_
  refine Goes.via (B := s₁.setTop (mkF m 10 #[.val (.ref a1), .val (.ref a2), .val (.int (3 : Int32))] [])) (fun t k => XS.icmpNo X0.here hx rfl (hb hby d3_7) rfl (teq (by decide : (3 : Int32) = (3 : Int32))).2 k) ?_
  refine Goes.via (B := s₁.setTop (mkF m 11 #[.val (.ref a1), .val (.ref a2), .val (.int (3 : Int32))] [(.ref a2)])) (fun t k => XS.aloadN X0.here hx rfl (hb hby d3_10) rfl rfl k) ?_
  obtain ⟨cl2, Ar2, q2, S2, M2, H2, G2⟩ := U0
  have ln2 := len_of S2 M2
  refine Goes.via (B := s₁.setTop (mkF m 12 #[.val (.ref a1), .val (.ref a2), .val (.int (3 : Int32))] [(.int (3 : Int32))])) (fun t k => X0.arraylength hx (by rw [e0]; exact Ar2.1) (State.isArrayOf_alike hZ.alike Ar2.2.1) (g := (mkF m 11 #[.val (.ref a1), .val (.ref a2), .val (.int (3 : Int32))] [(.ref a2)])) rfl rfl (hb hby d3_11) _ (by rw [ln2]; exact k)) ?_
  refine Goes.via (B := s₁.setTop (mkF m 13 #[.val (.ref a1), .val (.ref a2), .val (.int (3 : Int32))] [(.int (3 : Int32)), (.int (3 : Int32))])) (fun t k => XS.iloadN X0.here hx rfl (hb hby d3_12) rfl k) ?_
  refine Goes.via (B := s₁.setTop (mkF m 18 #[.val (.ref a1), .val (.ref a2), .val (.int (3 : Int32))] [])) (fun t k => XS.icmpYes X0.here hx rfl (pc0 := 13) (pc' := 18) rfl (hb hby d3_13) rfl (teq (by decide : (3 : Int32) = (3 : Int32))).1 (by decide) (by decide) k) ?_
  refine Goes.via (B := s₁.setTop (mkF m 19 #[.val (.ref a1), .val (.ref a2), .val (.int (3 : Int32))] [(.ref a1)])) (fun t k => XS.aloadN X0.here hx rfl (hb hby d3_18) rfl rfl k) ?_
  refine Goes.via (B := s₁.setTop (mkF m 20 #[.val (.ref a1), .val (.ref a2), .val (.int (3 : Int32))] [(.int (0 : Int32)), (.ref a1)])) (fun t k => XS.iconst X0.here hx rfl (hb hby d3_19) k) ?_
  obtain ⟨cl3, Ar3, q3, S3, M3, H3, G3⟩ := (⟨cl1, Ar1, q1, S1, M1, H1, G1⟩ : Arv Z h0 a1 k1 .byte (3 : Int32) [(.int y0), (.int y1), (.int y2)] (.int (0 : Int32)))
  have hin3 : ¬ ((0 : Int32) < 0 ∨ cl3.slots.size ≤ ((0 : Int32)).toNatClampNeg) := inb_of S3 ⟨by decide, by decide⟩
  have hat3 : cl3.slots[((0 : Int32)).toNatClampNeg]? = some (.int y0) := H3.at hin3 rfl
  refine Goes.via (B := s₁.setTop (mkF m 21 #[.val (.ref a1), .val (.ref a2), .val (.int (3 : Int32))] [(.int y0)])) (fun t k => X0.baloadBytes hx (j := (0 : Int32)) (v := (.int y0)) (by rw [e0]; exact Ar3.1) (State.isArrayOf_alike hZ.alike Ar3.2.1) Ar3.2.2 hin3 hat3 (g := (mkF m 20 #[.val (.ref a1), .val (.ref a2), .val (.int (3 : Int32))] [(.int (0 : Int32)), (.ref a1)])) rfl rfl (hb hby d3_20) _ k) ?_
  refine Goes.via (B := s₁.setTop (mkF m 22 #[.val (.ref a1), .val (.ref a2), .val (.int (3 : Int32))] [(.ref a2), (.int y0)])) (fun t k => XS.aloadN X0.here hx rfl (hb hby d3_21) rfl rfl k) ?_
  refine Goes.via (B := s₁.setTop (mkF m 23 #[.val (.ref a1), .val (.ref a2), .val (.int (3 : Int32))] [(.int (0 : Int32)), (.ref a2), (.int y0)])) (fun t k => XS.iconst X0.here hx rfl (hb hby d3_22) k) ?_
  obtain ⟨cl4, Ar4, q4, S4, M4, H4, G4⟩ := (⟨cl2, Ar2, q2, S2, M2, H2, G2⟩ : Arv Z h0 a2 k2 .byte (3 : Int32) [(.int y0), (.int y1), (.int y2)] (.int (0 : Int32)))
  have hin4 : ¬ ((0 : Int32) < 0 ∨ cl4.slots.size ≤ ((0 : Int32)).toNatClampNeg) := inb_of S4 ⟨by decide, by decide⟩
  have hat4 : cl4.slots[((0 : Int32)).toNatClampNeg]? = some (.int y0) := H4.at hin4 rfl
  refine Goes.via (B := s₁.setTop (mkF m 24 #[.val (.ref a1), .val (.ref a2), .val (.int (3 : Int32))] [(.int y0), (.int y0)])) (fun t k => X0.baloadBytes hx (j := (0 : Int32)) (v := (.int y0)) (by rw [e0]; exact Ar4.1) (State.isArrayOf_alike hZ.alike Ar4.2.1) Ar4.2.2 hin4 hat4 (g := (mkF m 23 #[.val (.ref a1), .val (.ref a2), .val (.int (3 : Int32))] [(.int (0 : Int32)), (.ref a2), (.int y0)])) rfl rfl (hb hby d3_23) _ k) ?_
  refine Goes.via (B := s₁.setTop (mkF m 27 #[.val (.ref a1), .val (.ref a2), .val (.int (3 : Int32))] [])) (fun t k => XS.icmpNo X0.here hx rfl (hb hby d3_24) rfl (teq rfl).2 k) ?_
  refine Goes.via (B := s₁.setTop (mkF m 28 #[.val (.ref a1), .val (.ref a2), .val (.int (3 : Int32))] [(.int (3 : Int32))])) (fun t k => XS.iloadN X0.here hx rfl (hb hby d3_27) rfl k) ?_
  refine Goes.via (B := s₁.setTop (mkF m 29 #[.val (.ref a1), .val (.ref a2), .val (.int (3 : Int32))] [(.int (2 : Int32)), (.int (3 : Int32))])) (fun t k => XS.iconst X0.here hx rfl (hb hby d3_28) k) ?_
  refine Goes.via (B := s₁.setTop (mkF m 32 #[.val (.ref a1), .val (.ref a2), .val (.int (3 : Int32))] [])) (fun t k => XS.icmpNo X0.here hx rfl (hb hby d3_29) rfl (flt (by decide : ¬ (3 : Int32) < (2 : Int32))).1 k) ?_
  refine Goes.via (B := s₁.setTop (mkF m 33 #[.val (.ref a1), .val (.ref a2), .val (.int (3 : Int32))] [(.ref a1)])) (fun t k => XS.aloadN X0.here hx rfl (hb hby d3_32) rfl rfl k) ?_
  refine Goes.via (B := s₁.setTop (mkF m 34 #[.val (.ref a1), .val (.ref a2), .val (.int (3 : Int32))] [(.int (1 : Int32)), (.ref a1)])) (fun t k => XS.iconst X0.here hx rfl (hb hby d3_33) k) ?_
  obtain ⟨cl5, Ar5, q5, S5, M5, H5, G5⟩ := (⟨cl3, Ar3, q3, S3, M3, H3, G3⟩ : Arv Z h0 a1 k1 .byte (3 : Int32) [(.int y0), (.int y1), (.int y2)] (.int (0 : Int32)))
  have hin5 : ¬ ((1 : Int32) < 0 ∨ cl5.slots.size ≤ ((1 : Int32)).toNatClampNeg) := inb_of S5 ⟨by decide, by decide⟩
  have hat5 : cl5.slots[((1 : Int32)).toNatClampNeg]? = some (.int y1) := H5.at hin5 rfl
  refine Goes.via (B := s₁.setTop (mkF m 35 #[.val (.ref a1), .val (.ref a2), .val (.int (3 : Int32))] [(.int y1)])) (fun t k => X0.baloadBytes hx (j := (1 : Int32)) (v := (.int y1)) (by rw [e0]; exact Ar5.1) (State.isArrayOf_alike hZ.alike Ar5.2.1) Ar5.2.2 hin5 hat5 (g := (mkF m 34 #[.val (.ref a1), .val (.ref a2), .val (.int (3 : Int32))] [(.int (1 : Int32)), (.ref a1)])) rfl rfl (hb hby d3_34) _ k) ?_
  refine Goes.via (B := s₁.setTop (mkF m 36 #[.val (.ref a1), .val (.ref a2), .val (.int (3 : Int32))] [(.ref a2), (.int y1)])) (fun t k => XS.aloadN X0.here hx rfl (hb hby d3_35) rfl rfl k) ?_
  refine Goes.via (B := s₁.setTop (mkF m 37 #[.val (.ref a1), .val (.ref a2), .val (.int (3 : Int32))] [(.int (1 : Int32)), (.ref a2), (.int y1)])) (fun t k => XS.iconst X0.here hx rfl (hb hby d3_36) k) ?_
  obtain ⟨cl6, Ar6, q6, S6, M6, H6, G6⟩ := (⟨cl4, Ar4, q4, S4, M4, H4, G4⟩ : Arv Z h0 a2 k2 .byte (3 : Int32) [(.int y0), (.int y1), (.int y2)] (.int (0 : Int32)))
  have hin6 : ¬ ((1 : Int32) < 0 ∨ cl6.slots.size ≤ ((1 : Int32)).toNatClampNeg) := inb_of S6 ⟨by decide, by decide⟩
  have hat6 : cl6.slots[((1 : Int32)).toNatClampNeg]? = some (.int y1) := H6.at hin6 rfl
  refine Goes.via (B := s₁.setTop (mkF m 38 #[.val (.ref a1), .val (.ref a2), .val (.int (3 : Int32))] [(.int y1), (.int y1)])) (fun t k => X0.baloadBytes hx (j := (1 : Int32)) (v := (.int y1)) (by rw [e0]; exact Ar6.1) (State.isArrayOf_alike hZ.alike Ar6.2.1) Ar6.2.2 hin6 hat6 (g := (mkF m 37 #[.val (.ref a1), .val (.ref a2), .val (.int (3 : Int32))] [(.int (1 : Int32)), (.ref a2), (.int y1)])) rfl rfl (hb hby d3_37) _ k) ?_
  refine Goes.via (B := s₁.setTop (mkF m 41 #[.val (.ref a1), .val (.ref a2), .val (.int (3 : Int32))] [])) (fun t k => XS.icmpNo X0.here hx rfl (hb hby d3_38) rfl (teq rfl).2 k) ?_
  refine Goes.via (B := s₁.setTop (mkF m 42 #[.val (.ref a1), .val (.ref a2), .val (.int (3 : Int32))] [(.int (3 : Int32))])) (fun t k => XS.iloadN X0.here hx rfl (hb hby d3_41) rfl k) ?_
  refine Goes.via (B := s₁.setTop (mkF m 43 #[.val (.ref a1), .val (.ref a2), .val (.int (3 : Int32))] [(.int (3 : Int32)), (.int (3 : Int32))])) (fun t k => XS.iconst X0.here hx rfl (hb hby d3_42) k) ?_
  refine Goes.via (B := s₁.setTop (mkF m 46 #[.val (.ref a1), .val (.ref a2), .val (.int (3 : Int32))] [])) (fun t k => XS.icmpNo X0.here hx rfl (hb hby d3_43) rfl (flt (by decide : ¬ (3 : Int32) < (3 : Int32))).1 k) ?_
  refine Goes.via (B := s₁.setTop (mkF m 47 #[.val (.ref a1), .val (.ref a2), .val (.int (3 : Int32))] [(.ref a1)])) (fun t k => XS.aloadN X0.here hx rfl (hb hby d3_46) rfl rfl k) ?_
  refine Goes.via (B := s₁.setTop (mkF m 48 #[.val (.ref a1), .val (.ref a2), .val (.int (3 : Int32))] [(.int (2 : Int32)), (.ref a1)])) (fun t k => XS.iconst X0.here hx rfl (hb hby d3_47) k) ?_
  obtain ⟨cl7, Ar7, q7, S7, M7, H7, G7⟩ := (⟨cl5, Ar5, q5, S5, M5, H5, G5⟩ : Arv Z h0 a1 k1 .byte (3 : Int32) [(.int y0), (.int y1), (.int y2)] (.int (0 : Int32)))
  have hin7 : ¬ ((2 : Int32) < 0 ∨ cl7.slots.size ≤ ((2 : Int32)).toNatClampNeg) := inb_of S7 ⟨by decide, by decide⟩
  have hat7 : cl7.slots[((2 : Int32)).toNatClampNeg]? = some (.int y2) := H7.at hin7 rfl
  refine Goes.via (B := s₁.setTop (mkF m 49 #[.val (.ref a1), .val (.ref a2), .val (.int (3 : Int32))] [(.int y2)])) (fun t k => X0.baloadBytes hx (j := (2 : Int32)) (v := (.int y2)) (by rw [e0]; exact Ar7.1) (State.isArrayOf_alike hZ.alike Ar7.2.1) Ar7.2.2 hin7 hat7 (g := (mkF m 48 #[.val (.ref a1), .val (.ref a2), .val (.int (3 : Int32))] [(.int (2 : Int32)), (.ref a1)])) rfl rfl (hb hby d3_48) _ k) ?_
  refine Goes.via (B := s₁.setTop (mkF m 50 #[.val (.ref a1), .val (.ref a2), .val (.int (3 : Int32))] [(.ref a2), (.int y2)])) (fun t k => XS.aloadN X0.here hx rfl (hb hby d3_49) rfl rfl k) ?_
  refine Goes.via (B := s₁.setTop (mkF m 51 #[.val (.ref a1), .val (.ref a2), .val (.int (3 : Int32))] [(.int (2 : Int32)), (.ref a2), (.int y2)])) (fun t k => XS.iconst X0.here hx rfl (hb hby d3_50) k) ?_
  obtain ⟨cl8, Ar8, q8, S8, M8, H8, G8⟩ := (⟨cl6, Ar6, q6, S6, M6, H6, G6⟩ : Arv Z h0 a2 k2 .byte (3 : Int32) [(.int y0), (.int y1), (.int y2)] (.int (0 : Int32)))
  have hin8 : ¬ ((2 : Int32) < 0 ∨ cl8.slots.size ≤ ((2 : Int32)).toNatClampNeg) := inb_of S8 ⟨by decide, by decide⟩
  have hat8 : cl8.slots[((2 : Int32)).toNatClampNeg]? = some (.int y2) := H8.at hin8 rfl
  refine Goes.via (B := s₁.setTop (mkF m 52 #[.val (.ref a1), .val (.ref a2), .val (.int (3 : Int32))] [(.int y2), (.int y2)])) (fun t k => X0.baloadBytes hx (j := (2 : Int32)) (v := (.int y2)) (by rw [e0]; exact Ar8.1) (State.isArrayOf_alike hZ.alike Ar8.2.1) Ar8.2.2 hin8 hat8 (g := (mkF m 51 #[.val (.ref a1), .val (.ref a2), .val (.int (3 : Int32))] [(.int (2 : Int32)), (.ref a2), (.int y2)])) rfl rfl (hb hby d3_51) _ k) ?_
  refine Goes.via (B := s₁.setTop (mkF m 55 #[.val (.ref a1), .val (.ref a2), .val (.int (3 : Int32))] [])) (fun t k => XS.icmpNo X0.here hx rfl (hb hby d3_52) rfl (teq rfl).2 k) ?_
  refine Goes.via (B := s₁.setTop (mkF m 56 #[.val (.ref a1), .val (.ref a2), .val (.int (3 : Int32))] [(.int (3 : Int32))])) (fun t k => XS.iloadN X0.here hx rfl (hb hby d3_55) rfl k) ?_
  refine Goes.via (B := s₁.setTop (mkF m 57 #[.val (.ref a1), .val (.ref a2), .val (.int (3 : Int32))] [(.int (4 : Int32)), (.int (3 : Int32))])) (fun t k => XS.iconst X0.here hx rfl (hb hby d3_56) k) ?_
  refine Goes.via (B := s₁.setTop (mkF m 69 #[.val (.ref a1), .val (.ref a2), .val (.int (3 : Int32))] [])) (fun t k => XS.icmpYes X0.here hx rfl (pc0 := 57) (pc' := 69) rfl (hb hby d3_57) rfl (tlt (by decide : (3 : Int32) < (4 : Int32))).1 (by decide) (by decide) k) ?_
  refine Goes.via (B := s₁.setTop (mkF m 70 #[.val (.ref a1), .val (.ref a2), .val (.int (3 : Int32))] [(.int (1 : Int32))])) (fun t k => XS.iconst X0.here hx rfl (hb hby d3_69) k) ?_
  refine Goes.via (B := s₁.setTop (mkF m 74 #[.val (.ref a1), .val (.ref a2), .val (.int (3 : Int32))] [(.int (1 : Int32))])) (fun t k => XS.goto X0.here hx rfl (pc0 := 70) (pc' := 74) rfl (hb hby d3_70) (by decide) (by decide) k) ?_
  exact own_out X0 (v := some (.int (1 : Int32))) (fun h => by rw [Bd.returns] at h; cases h) Bd.notSynchronized (fun fs hr => retOut X0 hx Bd.returns rfl (Or.inl ⟨rfl, Or.inr (Or.inl rfl), _, rfl⟩) (hb hby d3_74) hr) ⟨rfl, N0, e0⟩ (by decide) (by decide)
theorem d3_60 : decode method_4_code 60 = .ok (.aload_n 0, 1) := by decide +kernel
theorem d3_61 : decode method_4_code 61 = .ok (.iconst 3, 1) := by decide +kernel
theorem d3_62 : decode method_4_code 62 = .ok (.baload, 1) := by decide +kernel
theorem d3_63 : decode method_4_code 63 = .ok (.aload_n 1, 1) := by decide +kernel
theorem d3_64 : decode method_4_code 64 = .ok (.iconst 3, 1) := by decide +kernel
theorem d3_65 : decode method_4_code 65 = .ok (.baload, 1) := by decide +kernel
theorem d3_66 : decode method_4_code 66 = .ok (.if_icmp .ne 7, 3) := by decide +kernel
theorem ef_3_4 (m : MethodId) (x0 : Addr) (x1 : Addr) (x2 : Int32) : entryFrame m #[(.ref x0), (.ref x1), (.int x2)] 3 = mkF m 0 #[.val (.ref x0), .val (.ref x1), .val (.int x2)] [] := by first | (simp [entryFrame, mkF, argsToLocals, Value.category]; done) | rfl
def Q3_4 (Z : State) (a1 : Addr) (a2 : Addr) (k1 : ClassId) (k2 : ClassId) (y0 : Int32) (y1 : Int32) (y2 : Int32) (y3 : Int32) (h0 : Heap) (n0 : Nat) (v : Option Value) (h : Heap) (L : List Loc) : Prop := v = some (.int (1 : Int32)) ∧ Fr n0 L ∧ h = h0
set_option maxRecDepth 65536 in
set_option maxHeartbeats 40000000 in
theorem rm3_4 (l : Launch) (Z : State) (a0 : Array Value) (hw : ∀ d ∈ tables_1, d.before a0 Z = true) (ws : List Jvm.Cond) (a1 : Addr) (a2 : Addr) (k1 : ClassId) (k2 : ClassId) (y0 : Int32) (y1 : Int32) (y2 : Int32) (y3 : Int32) (h0 : Heap) (n0 : Nat) (Z0 : n0 ≤ h0.size) (V0 : Arv Z h0 a1 k1 .byte (4 : Int32) [(.int y0), (.int y1), (.int y2), (.int y3)] (.int (0 : Int32))) (U0 : Arv Z h0 a2 k2 .byte (4 : Int32) [(.int y0), (.int y1), (.int y2), (.int y3)] (.int (0 : Int32))) :
    MetFree l (⟨"com/example/highwater/highwater/embedded/KeysPrefixEndPinLaw", "same", "([B[BI)Z"⟩ : MethodName) (head1 (Jvm.Cond.code (⟨"com/example/highwater/highwater/embedded/KeysPrefixEndPinLaw", "same", "([B[BI)Z"⟩ : MethodName) method_4_code 3 (some .boolean) :: ws) ({ frames := 0, cells := 0, slots := 0, locals := 0 } : Room)) (fun a U => a = #[(.ref a1), (.ref a2), (.int (4 : Int32))] ∧ Z.Warmed39 U.vm ∧ U.heap = h0) (fun _ _ _ _ _ => True) (fun _ U o U' => ∃ v L, o = .returned v ∧ Q3_4 Z a1 a2 k1 k2 y0 y1 y2 y3 h0 n0 v U'.heap L ∧ FrameEnd U o U' L ({ frames := 0, cells := 0, slots := 0, locals := 0 } : Room).cells ({ frames := 0, cells := 0, slots := 0, locals := 0 } : Room).slots) := by
  refine MetFree.of_bodySF (plainFor_of_name pn_com_example_highwater_highwater_embedded_KeysPrefixEndPinLaw) hisR ?_
  intro p e s m args below meth c s₁ Bd hml0 hP hK
  obtain ⟨rfl, hZ, hh⟩ := hP
  have hx := Bd.exec
  have hby := Bd.bytes
  have hml : c.maxLocals = 3 := hml0
  have hown : s.vm.findClass "com/example/highwater/highwater/embedded/KeysPrefixEndPinLaw" = some m.cls := findClass_of_methodNamed Bd.named
  have hnm := (name_of_methodNamed Bd.named Bd.method).1
  have X0 : Stand p l e ({ frames := 0, cells := 0, slots := 0, locals := 0 } : Room) s m #[(.ref a1), (.ref a2), (.int (4 : Int32))] below meth c s₁ [] 0 0 := Stand.of_body Bd
  have e0 : s₁.heap = h0 := by rw [← hh, Bd.state]; rfl
  have N0 := Fr.nil n0
  show Goes p e below (fun s₂ o => ∃ v L, o = .returned v ∧ Q3_4 Z a1 a2 k1 k2 y0 y1 y2 y3 h0 n0 v s₂.heap L ∧ FrameEnd s o s₂ L ({ frames := 0, cells := 0, slots := 0, locals := 0 } : Room).cells ({ frames := 0, cells := 0, slots := 0, locals := 0 } : Room).slots) (s₁.setTop (entryFrame m #[(.ref a1), (.ref a2), (.int (4 : Int32))] 3))
  refine Goes.cast (ef_3_4 m a1 a2 (4 : Int32)) ?_
  refine Goes.via (B := s₁.setTop (mkF m 1 #[.val (.ref a1), .val (.ref a2), .val (.int (4 : Int32))] [(.ref a1)])) (fun t k => XS.aloadN X0.here hx rfl (hb hby d3_0) rfl rfl k) ?_
  refine Goes.via (B := s₁.setTop (mkF m 4 #[.val (.ref a1), .val (.ref a2), .val (.int (4 : Int32))] [])) (fun t k => XS.ifnullNo X0.here hx rfl (hb hby d3_1) rfl k) ?_
  refine Goes.via (B := s₁.setTop (mkF m 5 #[.val (.ref a1), .val (.ref a2), .val (.int (4 : Int32))] [(.ref a1)])) (fun t k => XS.aloadN X0.here hx rfl (hb hby d3_4) rfl rfl k) ?_
  obtain ⟨cl1, Ar1, q1, S1, M1, H1, G1⟩ := V0
  have ln1 := len_of S1 M1
  refine Goes.via (B := s₁.setTop (mkF m 6 #[.val (.ref a1), .val (.ref a2), .val (.int (4 : Int32))] [(.int (4 : Int32))])) (fun t k => X0.arraylength hx (by rw [e0]; exact Ar1.1) (State.isArrayOf_alike hZ.alike Ar1.2.1) (g := (mkF m 5 #[.val (.ref a1), .val (.ref a2), .val (.int (4 : Int32))] [(.ref a1)])) rfl rfl (hb hby d3_5) _ (by rw [ln1]; exact k)) ?_
  refine Goes.via (B := s₁.setTop (mkF m 7 #[.val (.ref a1), .val (.ref a2), .val (.int (4 : Int32))] [(.int (4 : Int32)), (.int (4 : Int32))])) (fun t k => XS.iloadN X0.here hx rfl (hb hby d3_6) rfl k) ?_
  refine Goes.via (B := s₁.setTop (mkF m 10 #[.val (.ref a1), .val (.ref a2), .val (.int (4 : Int32))] [])) (fun t k => XS.icmpNo X0.here hx rfl (hb hby d3_7) rfl (teq (by decide : (4 : Int32) = (4 : Int32))).2 k) ?_
  refine Goes.via (B := s₁.setTop (mkF m 11 #[.val (.ref a1), .val (.ref a2), .val (.int (4 : Int32))] [(.ref a2)])) (fun t k => XS.aloadN X0.here hx rfl (hb hby d3_10) rfl rfl k) ?_
  obtain ⟨cl2, Ar2, q2, S2, M2, H2, G2⟩ := U0
  have ln2 := len_of S2 M2
  refine Goes.via (B := s₁.setTop (mkF m 12 #[.val (.ref a1), .val (.ref a2), .val (.int (4 : Int32))] [(.int (4 : Int32))])) (fun t k => X0.arraylength hx (by rw [e0]; exact Ar2.1) (State.isArrayOf_alike hZ.alike Ar2.2.1) (g := (mkF m 11 #[.val (.ref a1), .val (.ref a2), .val (.int (4 : Int32))] [(.ref a2)])) rfl rfl (hb hby d3_11) _ (by rw [ln2]; exact k)) ?_
  refine Goes.via (B := s₁.setTop (mkF m 13 #[.val (.ref a1), .val (.ref a2), .val (.int (4 : Int32))] [(.int (4 : Int32)), (.int (4 : Int32))])) (fun t k => XS.iloadN X0.here hx rfl (hb hby d3_12) rfl k) ?_
  refine Goes.via (B := s₁.setTop (mkF m 18 #[.val (.ref a1), .val (.ref a2), .val (.int (4 : Int32))] [])) (fun t k => XS.icmpYes X0.here hx rfl (pc0 := 13) (pc' := 18) rfl (hb hby d3_13) rfl (teq (by decide : (4 : Int32) = (4 : Int32))).1 (by decide) (by decide) k) ?_
  refine Goes.via (B := s₁.setTop (mkF m 19 #[.val (.ref a1), .val (.ref a2), .val (.int (4 : Int32))] [(.ref a1)])) (fun t k => XS.aloadN X0.here hx rfl (hb hby d3_18) rfl rfl k) ?_
  refine Goes.via (B := s₁.setTop (mkF m 20 #[.val (.ref a1), .val (.ref a2), .val (.int (4 : Int32))] [(.int (0 : Int32)), (.ref a1)])) (fun t k => XS.iconst X0.here hx rfl (hb hby d3_19) k) ?_
  obtain ⟨cl3, Ar3, q3, S3, M3, H3, G3⟩ := (⟨cl1, Ar1, q1, S1, M1, H1, G1⟩ : Arv Z h0 a1 k1 .byte (4 : Int32) [(.int y0), (.int y1), (.int y2), (.int y3)] (.int (0 : Int32)))
  have hin3 : ¬ ((0 : Int32) < 0 ∨ cl3.slots.size ≤ ((0 : Int32)).toNatClampNeg) := inb_of S3 ⟨by decide, by decide⟩
  have hat3 : cl3.slots[((0 : Int32)).toNatClampNeg]? = some (.int y0) := H3.at hin3 rfl
  refine Goes.via (B := s₁.setTop (mkF m 21 #[.val (.ref a1), .val (.ref a2), .val (.int (4 : Int32))] [(.int y0)])) (fun t k => X0.baloadBytes hx (j := (0 : Int32)) (v := (.int y0)) (by rw [e0]; exact Ar3.1) (State.isArrayOf_alike hZ.alike Ar3.2.1) Ar3.2.2 hin3 hat3 (g := (mkF m 20 #[.val (.ref a1), .val (.ref a2), .val (.int (4 : Int32))] [(.int (0 : Int32)), (.ref a1)])) rfl rfl (hb hby d3_20) _ k) ?_
  refine Goes.via (B := s₁.setTop (mkF m 22 #[.val (.ref a1), .val (.ref a2), .val (.int (4 : Int32))] [(.ref a2), (.int y0)])) (fun t k => XS.aloadN X0.here hx rfl (hb hby d3_21) rfl rfl k) ?_
  refine Goes.via (B := s₁.setTop (mkF m 23 #[.val (.ref a1), .val (.ref a2), .val (.int (4 : Int32))] [(.int (0 : Int32)), (.ref a2), (.int y0)])) (fun t k => XS.iconst X0.here hx rfl (hb hby d3_22) k) ?_
  obtain ⟨cl4, Ar4, q4, S4, M4, H4, G4⟩ := (⟨cl2, Ar2, q2, S2, M2, H2, G2⟩ : Arv Z h0 a2 k2 .byte (4 : Int32) [(.int y0), (.int y1), (.int y2), (.int y3)] (.int (0 : Int32)))
  have hin4 : ¬ ((0 : Int32) < 0 ∨ cl4.slots.size ≤ ((0 : Int32)).toNatClampNeg) := inb_of S4 ⟨by decide, by decide⟩
  have hat4 : cl4.slots[((0 : Int32)).toNatClampNeg]? = some (.int y0) := H4.at hin4 rfl
  refine Goes.via (B := s₁.setTop (mkF m 24 #[.val (.ref a1), .val (.ref a2), .val (.int (4 : Int32))] [(.int y0), (.int y0)])) (fun t k => X0.baloadBytes hx (j := (0 : Int32)) (v := (.int y0)) (by rw [e0]; exact Ar4.1) (State.isArrayOf_alike hZ.alike Ar4.2.1) Ar4.2.2 hin4 hat4 (g := (mkF m 23 #[.val (.ref a1), .val (.ref a2), .val (.int (4 : Int32))] [(.int (0 : Int32)), (.ref a2), (.int y0)])) rfl rfl (hb hby d3_23) _ k) ?_
  refine Goes.via (B := s₁.setTop (mkF m 27 #[.val (.ref a1), .val (.ref a2), .val (.int (4 : Int32))] [])) (fun t k => XS.icmpNo X0.here hx rfl (hb hby d3_24) rfl (teq rfl).2 k) ?_
  refine Goes.via (B := s₁.setTop (mkF m 28 #[.val (.ref a1), .val (.ref a2), .val (.int (4 : Int32))] [(.int (4 : Int32))])) (fun t k => XS.iloadN X0.here hx rfl (hb hby d3_27) rfl k) ?_
  refine Goes.via (B := s₁.setTop (mkF m 29 #[.val (.ref a1), .val (.ref a2), .val (.int (4 : Int32))] [(.int (2 : Int32)), (.int (4 : Int32))])) (fun t k => XS.iconst X0.here hx rfl (hb hby d3_28) k) ?_
  refine Goes.via (B := s₁.setTop (mkF m 32 #[.val (.ref a1), .val (.ref a2), .val (.int (4 : Int32))] [])) (fun t k => XS.icmpNo X0.here hx rfl (hb hby d3_29) rfl (flt (by decide : ¬ (4 : Int32) < (2 : Int32))).1 k) ?_
  refine Goes.via (B := s₁.setTop (mkF m 33 #[.val (.ref a1), .val (.ref a2), .val (.int (4 : Int32))] [(.ref a1)])) (fun t k => XS.aloadN X0.here hx rfl (hb hby d3_32) rfl rfl k) ?_
  refine Goes.via (B := s₁.setTop (mkF m 34 #[.val (.ref a1), .val (.ref a2), .val (.int (4 : Int32))] [(.int (1 : Int32)), (.ref a1)])) (fun t k => XS.iconst X0.here hx rfl (hb hby d3_33) k) ?_
  obtain ⟨cl5, Ar5, q5, S5, M5, H5, G5⟩ := (⟨cl3, Ar3, q3, S3, M3, H3, G3⟩ : Arv Z h0 a1 k1 .byte (4 : Int32) [(.int y0), (.int y1), (.int y2), (.int y3)] (.int (0 : Int32)))
  have hin5 : ¬ ((1 : Int32) < 0 ∨ cl5.slots.size ≤ ((1 : Int32)).toNatClampNeg) := inb_of S5 ⟨by decide, by decide⟩
  have hat5 : cl5.slots[((1 : Int32)).toNatClampNeg]? = some (.int y1) := H5.at hin5 rfl
  refine Goes.via (B := s₁.setTop (mkF m 35 #[.val (.ref a1), .val (.ref a2), .val (.int (4 : Int32))] [(.int y1)])) (fun t k => X0.baloadBytes hx (j := (1 : Int32)) (v := (.int y1)) (by rw [e0]; exact Ar5.1) (State.isArrayOf_alike hZ.alike Ar5.2.1) Ar5.2.2 hin5 hat5 (g := (mkF m 34 #[.val (.ref a1), .val (.ref a2), .val (.int (4 : Int32))] [(.int (1 : Int32)), (.ref a1)])) rfl rfl (hb hby d3_34) _ k) ?_
  refine Goes.via (B := s₁.setTop (mkF m 36 #[.val (.ref a1), .val (.ref a2), .val (.int (4 : Int32))] [(.ref a2), (.int y1)])) (fun t k => XS.aloadN X0.here hx rfl (hb hby d3_35) rfl rfl k) ?_
  refine Goes.via (B := s₁.setTop (mkF m 37 #[.val (.ref a1), .val (.ref a2), .val (.int (4 : Int32))] [(.int (1 : Int32)), (.ref a2), (.int y1)])) (fun t k => XS.iconst X0.here hx rfl (hb hby d3_36) k) ?_
  obtain ⟨cl6, Ar6, q6, S6, M6, H6, G6⟩ := (⟨cl4, Ar4, q4, S4, M4, H4, G4⟩ : Arv Z h0 a2 k2 .byte (4 : Int32) [(.int y0), (.int y1), (.int y2), (.int y3)] (.int (0 : Int32)))
  have hin6 : ¬ ((1 : Int32) < 0 ∨ cl6.slots.size ≤ ((1 : Int32)).toNatClampNeg) := inb_of S6 ⟨by decide, by decide⟩
  have hat6 : cl6.slots[((1 : Int32)).toNatClampNeg]? = some (.int y1) := H6.at hin6 rfl
  refine Goes.via (B := s₁.setTop (mkF m 38 #[.val (.ref a1), .val (.ref a2), .val (.int (4 : Int32))] [(.int y1), (.int y1)])) (fun t k => X0.baloadBytes hx (j := (1 : Int32)) (v := (.int y1)) (by rw [e0]; exact Ar6.1) (State.isArrayOf_alike hZ.alike Ar6.2.1) Ar6.2.2 hin6 hat6 (g := (mkF m 37 #[.val (.ref a1), .val (.ref a2), .val (.int (4 : Int32))] [(.int (1 : Int32)), (.ref a2), (.int y1)])) rfl rfl (hb hby d3_37) _ k) ?_
  refine Goes.via (B := s₁.setTop (mkF m 41 #[.val (.ref a1), .val (.ref a2), .val (.int (4 : Int32))] [])) (fun t k => XS.icmpNo X0.here hx rfl (hb hby d3_38) rfl (teq rfl).2 k) ?_
  refine Goes.via (B := s₁.setTop (mkF m 42 #[.val (.ref a1), .val (.ref a2), .val (.int (4 : Int32))] [(.int (4 : Int32))])) (fun t k => XS.iloadN X0.here hx rfl (hb hby d3_41) rfl k) ?_
  refine Goes.via (B := s₁.setTop (mkF m 43 #[.val (.ref a1), .val (.ref a2), .val (.int (4 : Int32))] [(.int (3 : Int32)), (.int (4 : Int32))])) (fun t k => XS.iconst X0.here hx rfl (hb hby d3_42) k) ?_
  refine Goes.via (B := s₁.setTop (mkF m 46 #[.val (.ref a1), .val (.ref a2), .val (.int (4 : Int32))] [])) (fun t k => XS.icmpNo X0.here hx rfl (hb hby d3_43) rfl (flt (by decide : ¬ (4 : Int32) < (3 : Int32))).1 k) ?_
  refine Goes.via (B := s₁.setTop (mkF m 47 #[.val (.ref a1), .val (.ref a2), .val (.int (4 : Int32))] [(.ref a1)])) (fun t k => XS.aloadN X0.here hx rfl (hb hby d3_46) rfl rfl k) ?_
  refine Goes.via (B := s₁.setTop (mkF m 48 #[.val (.ref a1), .val (.ref a2), .val (.int (4 : Int32))] [(.int (2 : Int32)), (.ref a1)])) (fun t k => XS.iconst X0.here hx rfl (hb hby d3_47) k) ?_
  obtain ⟨cl7, Ar7, q7, S7, M7, H7, G7⟩ := (⟨cl5, Ar5, q5, S5, M5, H5, G5⟩ : Arv Z h0 a1 k1 .byte (4 : Int32) [(.int y0), (.int y1), (.int y2), (.int y3)] (.int (0 : Int32)))
  have hin7 : ¬ ((2 : Int32) < 0 ∨ cl7.slots.size ≤ ((2 : Int32)).toNatClampNeg) := inb_of S7 ⟨by decide, by decide⟩
  have hat7 : cl7.slots[((2 : Int32)).toNatClampNeg]? = some (.int y2) := H7.at hin7 rfl
  refine Goes.via (B := s₁.setTop (mkF m 49 #[.val (.ref a1), .val (.ref a2), .val (.int (4 : Int32))] [(.int y2)])) (fun t k => X0.baloadBytes hx (j := (2 : Int32)) (v := (.int y2)) (by rw [e0]; exact Ar7.1) (State.isArrayOf_alike hZ.alike Ar7.2.1) Ar7.2.2 hin7 hat7 (g := (mkF m 48 #[.val (.ref a1), .val (.ref a2), .val (.int (4 : Int32))] [(.int (2 : Int32)), (.ref a1)])) rfl rfl (hb hby d3_48) _ k) ?_
  refine Goes.via (B := s₁.setTop (mkF m 50 #[.val (.ref a1), .val (.ref a2), .val (.int (4 : Int32))] [(.ref a2), (.int y2)])) (fun t k => XS.aloadN X0.here hx rfl (hb hby d3_49) rfl rfl k) ?_
  refine Goes.via (B := s₁.setTop (mkF m 51 #[.val (.ref a1), .val (.ref a2), .val (.int (4 : Int32))] [(.int (2 : Int32)), (.ref a2), (.int y2)])) (fun t k => XS.iconst X0.here hx rfl (hb hby d3_50) k) ?_
  obtain ⟨cl8, Ar8, q8, S8, M8, H8, G8⟩ := (⟨cl6, Ar6, q6, S6, M6, H6, G6⟩ : Arv Z h0 a2 k2 .byte (4 : Int32) [(.int y0), (.int y1), (.int y2), (.int y3)] (.int (0 : Int32)))
  have hin8 : ¬ ((2 : Int32) < 0 ∨ cl8.slots.size ≤ ((2 : Int32)).toNatClampNeg) := inb_of S8 ⟨by decide, by decide⟩
  have hat8 : cl8.slots[((2 : Int32)).toNatClampNeg]? = some (.int y2) := H8.at hin8 rfl
  refine Goes.via (B := s₁.setTop (mkF m 52 #[.val (.ref a1), .val (.ref a2), .val (.int (4 : Int32))] [(.int y2), (.int y2)])) (fun t k => X0.baloadBytes hx (j := (2 : Int32)) (v := (.int y2)) (by rw [e0]; exact Ar8.1) (State.isArrayOf_alike hZ.alike Ar8.2.1) Ar8.2.2 hin8 hat8 (g := (mkF m 51 #[.val (.ref a1), .val (.ref a2), .val (.int (4 : Int32))] [(.int (2 : Int32)), (.ref a2), (.int y2)])) rfl rfl (hb hby d3_51) _ k) ?_
  refine Goes.via (B := s₁.setTop (mkF m 55 #[.val (.ref a1), .val (.ref a2), .val (.int (4 : Int32))] [])) (fun t k => XS.icmpNo X0.here hx rfl (hb hby d3_52) rfl (teq rfl).2 k) ?_
  refine Goes.via (B := s₁.setTop (mkF m 56 #[.val (.ref a1), .val (.ref a2), .val (.int (4 : Int32))] [(.int (4 : Int32))])) (fun t k => XS.iloadN X0.here hx rfl (hb hby d3_55) rfl k) ?_
  refine Goes.via (B := s₁.setTop (mkF m 57 #[.val (.ref a1), .val (.ref a2), .val (.int (4 : Int32))] [(.int (4 : Int32)), (.int (4 : Int32))])) (fun t k => XS.iconst X0.here hx rfl (hb hby d3_56) k) ?_
  refine Goes.via (B := s₁.setTop (mkF m 60 #[.val (.ref a1), .val (.ref a2), .val (.int (4 : Int32))] [])) (fun t k => XS.icmpNo X0.here hx rfl (hb hby d3_57) rfl (flt (by decide : ¬ (4 : Int32) < (4 : Int32))).1 k) ?_
  refine Goes.via (B := s₁.setTop (mkF m 61 #[.val (.ref a1), .val (.ref a2), .val (.int (4 : Int32))] [(.ref a1)])) (fun t k => XS.aloadN X0.here hx rfl (hb hby d3_60) rfl rfl k) ?_
  refine Goes.via (B := s₁.setTop (mkF m 62 #[.val (.ref a1), .val (.ref a2), .val (.int (4 : Int32))] [(.int (3 : Int32)), (.ref a1)])) (fun t k => XS.iconst X0.here hx rfl (hb hby d3_61) k) ?_
  obtain ⟨cl9, Ar9, q9, S9, M9, H9, G9⟩ := (⟨cl7, Ar7, q7, S7, M7, H7, G7⟩ : Arv Z h0 a1 k1 .byte (4 : Int32) [(.int y0), (.int y1), (.int y2), (.int y3)] (.int (0 : Int32)))
  have hin9 : ¬ ((3 : Int32) < 0 ∨ cl9.slots.size ≤ ((3 : Int32)).toNatClampNeg) := inb_of S9 ⟨by decide, by decide⟩
  have hat9 : cl9.slots[((3 : Int32)).toNatClampNeg]? = some (.int y3) := H9.at hin9 rfl
  refine Goes.via (B := s₁.setTop (mkF m 63 #[.val (.ref a1), .val (.ref a2), .val (.int (4 : Int32))] [(.int y3)])) (fun t k => X0.baloadBytes hx (j := (3 : Int32)) (v := (.int y3)) (by rw [e0]; exact Ar9.1) (State.isArrayOf_alike hZ.alike Ar9.2.1) Ar9.2.2 hin9 hat9 (g := (mkF m 62 #[.val (.ref a1), .val (.ref a2), .val (.int (4 : Int32))] [(.int (3 : Int32)), (.ref a1)])) rfl rfl (hb hby d3_62) _ k) ?_
  refine Goes.via (B := s₁.setTop (mkF m 64 #[.val (.ref a1), .val (.ref a2), .val (.int (4 : Int32))] [(.ref a2), (.int y3)])) (fun t k => XS.aloadN X0.here hx rfl (hb hby d3_63) rfl rfl k) ?_
  refine Goes.via (B := s₁.setTop (mkF m 65 #[.val (.ref a1), .val (.ref a2), .val (.int (4 : Int32))] [(.int (3 : Int32)), (.ref a2), (.int y3)])) (fun t k => XS.iconst X0.here hx rfl (hb hby d3_64) k) ?_
  obtain ⟨cl10, Ar10, q10, S10, M10, H10, G10⟩ := (⟨cl8, Ar8, q8, S8, M8, H8, G8⟩ : Arv Z h0 a2 k2 .byte (4 : Int32) [(.int y0), (.int y1), (.int y2), (.int y3)] (.int (0 : Int32)))
  have hin10 : ¬ ((3 : Int32) < 0 ∨ cl10.slots.size ≤ ((3 : Int32)).toNatClampNeg) := inb_of S10 ⟨by decide, by decide⟩
  have hat10 : cl10.slots[((3 : Int32)).toNatClampNeg]? = some (.int y3) := H10.at hin10 rfl
  refine Goes.via (B := s₁.setTop (mkF m 66 #[.val (.ref a1), .val (.ref a2), .val (.int (4 : Int32))] [(.int y3), (.int y3)])) (fun t k => X0.baloadBytes hx (j := (3 : Int32)) (v := (.int y3)) (by rw [e0]; exact Ar10.1) (State.isArrayOf_alike hZ.alike Ar10.2.1) Ar10.2.2 hin10 hat10 (g := (mkF m 65 #[.val (.ref a1), .val (.ref a2), .val (.int (4 : Int32))] [(.int (3 : Int32)), (.ref a2), (.int y3)])) rfl rfl (hb hby d3_65) _ k) ?_
  refine Goes.via (B := s₁.setTop (mkF m 69 #[.val (.ref a1), .val (.ref a2), .val (.int (4 : Int32))] [])) (fun t k => XS.icmpNo X0.here hx rfl (hb hby d3_66) rfl (teq rfl).2 k) ?_
  refine Goes.via (B := s₁.setTop (mkF m 70 #[.val (.ref a1), .val (.ref a2), .val (.int (4 : Int32))] [(.int (1 : Int32))])) (fun t k => XS.iconst X0.here hx rfl (hb hby d3_69) k) ?_
  refine Goes.via (B := s₁.setTop (mkF m 74 #[.val (.ref a1), .val (.ref a2), .val (.int (4 : Int32))] [(.int (1 : Int32))])) (fun t k => XS.goto X0.here hx rfl (pc0 := 70) (pc' := 74) rfl (hb hby d3_70) (by decide) (by decide) k) ?_
  exact own_out X0 (v := some (.int (1 : Int32))) (fun h => by rw [Bd.returns] at h; cases h) Bd.notSynchronized (fun fs hr => retOut X0 hx Bd.returns rfl (Or.inl ⟨rfl, Or.inr (Or.inl rfl), _, rfl⟩) (hb hby d3_74) hr) ⟨rfl, N0, e0⟩ (by decide) (by decide)
theorem pd__IBBBB__B : parseMethodDescriptor "(IBBBB)[B" = some ⟨[.int, .byte, .byte, .byte, .byte], some (.array .byte)⟩ := by decide +kernel
theorem pd___B__B : parseMethodDescriptor "([B)[B" = some ⟨[(.array .byte)], some (.array .byte)⟩ := by decide +kernel
theorem pd___B_BI_Z : parseMethodDescriptor "([B[BI)Z" = some ⟨[(.array .byte), (.array .byte), .int], some .boolean⟩ := by decide +kernel
theorem ef_0 (m : MethodId) (x0 : Int32) (x1 : Int32) (x2 : Int32) (x3 : Int32) (x4 : Int32) : entryFrame m #[(.int x0), (.int x1), (.int x2), (.int x3), (.int x4)] maxLocals = mkF m 0 #[.val (.int x0), .val (.int x1), .val (.int x2), .val (.int x3), .val (.int x4), .unset, .unset, .unset, .unset, .unset, .unset, .unset, .unset, .unset, .unset] [] := by first | (simp [entryFrame, mkF, argsToLocals, Value.category, maxLocals]; done) | rfl
theorem own_n {p1 v5 : Int32} (h : ((p1 &&& (3 : Int32)) + (1 : Int32)) = v5) : v5 = (1 : Int32) ∨ v5 = (2 : Int32) ∨ v5 = (3 : Int32) ∨ v5 = (4 : Int32) := by
  have a := c_and p1 3 (by decide)
  have b := c_iadd (p1 &&& (3 : Int32)) 1
  have r := rng32 v5
  rw [h] at b
  simp only [← Int32.toInt_inj, Int32.reduceToInt] at *
  omega
def Q0 (Z : State) (p1 : Int32) (p2 : Int32) (p3 : Int32) (p4 : Int32) (p5 : Int32) (h0 : Heap) (n0 : Nat) (v : Option Value) (h : Heap) (L : List Loc) : Prop := v = some (.int (1 : Int32)) ∧ Fr n0 L
set_option maxRecDepth 65536 in
set_option maxHeartbeats 40000000 in
theorem rm0 (l : Launch) (Z : State) (a0 : Array Value) (hw : ∀ d ∈ tables_1, d.before a0 Z = true) (ws : List Jvm.Cond) (p1 : Int32) (p2 : Int32) (p3 : Int32) (p4 : Int32) (p5 : Int32) (h0 : Heap) (n0 : Nat) (Z0 : n0 ≤ h0.size)  :
    MetFree l x (head1 (Jvm.Cond.code x code maxLocals ret :: ws) room_1) (fun a U => a = #[(.int p1), (.int p2), (.int p3), (.int p4), (.int p5)] ∧ Z.Warmed39 U.vm ∧ U.heap = h0) (fun _ _ _ _ _ => True) (fun _ U o U' => ∃ v L, o = .returned v ∧ Q0 Z p1 p2 p3 p4 p5 h0 n0 v U'.heap L ∧ FrameEnd U o U' L room_1.cells room_1.slots) := by
  refine MetFree.of_bodySF (plainFor_of_name pn_com_example_highwater_highwater_embedded_KeysPrefixEndPinLaw) hisR ?_
  intro p e s m args below meth c s₁ Bd hml0 hP hK
  obtain ⟨rfl, hZ, hh⟩ := hP
  have hx := Bd.exec
  have hby := Bd.bytes
  have hml : c.maxLocals = 15 := hml0
  have hown : s.vm.findClass "com/example/highwater/highwater/embedded/KeysPrefixEndPinLaw" = some m.cls := findClass_of_methodNamed Bd.named
  have hnm := (name_of_methodNamed Bd.named Bd.method).1
  have X0 : Stand p l e room_1 s m #[(.int p1), (.int p2), (.int p3), (.int p4), (.int p5)] below meth c s₁ [] 0 0 := Stand.of_body Bd
  have e0 : s₁.heap = h0 := by rw [← hh, Bd.state]; rfl
  have N0 := Fr.nil n0
  show Goes p e below (fun s₂ o => ∃ v L, o = .returned v ∧ Q0 Z p1 p2 p3 p4 p5 h0 n0 v s₂.heap L ∧ FrameEnd s o s₂ L room_1.cells room_1.slots) (s₁.setTop (entryFrame m #[(.int p1), (.int p2), (.int p3), (.int p4), (.int p5)] maxLocals))
  refine Goes.cast (ef_0 m p1 p2 p3 p4 p5) ?_
  refine Goes.via (B := s₁.setTop (mkF m 1 #[.val (.int p1), .val (.int p2), .val (.int p3), .val (.int p4), .val (.int p5), .unset, .unset, .unset, .unset, .unset, .unset, .unset, .unset, .unset, .unset] [(.int p1)])) (fun t k => XS.iloadN X0.here hx rfl (hb hby at_0) rfl k) ?_
  refine Goes.via (B := s₁.setTop (mkF m 2 #[.val (.int p1), .val (.int p2), .val (.int p3), .val (.int p4), .val (.int p5), .unset, .unset, .unset, .unset, .unset, .unset, .unset, .unset, .unset, .unset] [(.int (3 : Int32)), (.int p1)])) (fun t k => XS.iconst X0.here hx rfl (hb hby at_1) k) ?_
  refine Goes.via (B := s₁.setTop (mkF m 3 #[.val (.int p1), .val (.int p2), .val (.int p3), .val (.int p4), .val (.int p5), .unset, .unset, .unset, .unset, .unset, .unset, .unset, .unset, .unset, .unset] [(.int (p1 &&& (3 : Int32)))])) (fun t k => XS.iand X0.here hx rfl (hb hby at_2) rfl k) ?_
  refine Goes.via (B := s₁.setTop (mkF m 4 #[.val (.int p1), .val (.int p2), .val (.int p3), .val (.int p4), .val (.int p5), .unset, .unset, .unset, .unset, .unset, .unset, .unset, .unset, .unset, .unset] [(.int (1 : Int32)), (.int (p1 &&& (3 : Int32)))])) (fun t k => XS.iconst X0.here hx rfl (hb hby at_3) k) ?_
  refine Goes.via (B := s₁.setTop (mkF m 5 #[.val (.int p1), .val (.int p2), .val (.int p3), .val (.int p4), .val (.int p5), .unset, .unset, .unset, .unset, .unset, .unset, .unset, .unset, .unset, .unset] [(.int ((p1 &&& (3 : Int32)) + (1 : Int32)))])) (fun t k => XS.iadd X0.here hx rfl (hb hby at_4) rfl k) ?_
  refine Goes.via (B := s₁.setTop (mkF m 7 #[.val (.int p1), .val (.int p2), .val (.int p3), .val (.int p4), .val (.int p5), .val (.int ((p1 &&& (3 : Int32)) + (1 : Int32))), .unset, .unset, .unset, .unset, .unset, .unset, .unset, .unset, .unset] [])) (fun t k => XS.istore X0.here hx rfl (hb hby at_5) rfl (l' := #[.val (.int p1), .val (.int p2), .val (.int p3), .val (.int p4), .val (.int p5), .val (.int ((p1 &&& (3 : Int32)) + (1 : Int32))), .unset, .unset, .unset, .unset, .unset, .unset, .unset, .unset, .unset]) rfl k) ?_
  generalize hv5 : ((p1 &&& (3 : Int32)) + (1 : Int32)) = v5
  refine Goes.via (B := s₁.setTop (mkF m 8 #[.val (.int p1), .val (.int p2), .val (.int p3), .val (.int p4), .val (.int p5), .val (.int v5), .unset, .unset, .unset, .unset, .unset, .unset, .unset, .unset, .unset] [(.int p2)])) (fun t k => XS.iloadN X0.here hx rfl (hb hby at_7) rfl k) ?_
  refine Goes.via (B := s₁.setTop (mkF m 9 #[.val (.int p1), .val (.int p2), .val (.int p3), .val (.int p4), .val (.int p5), .val (.int v5), .unset, .unset, .unset, .unset, .unset, .unset, .unset, .unset, .unset] [(.int (p2.toInt8.toInt32))])) (fun t k => XS.i2b X0.here hx rfl (hb hby at_8) rfl k) ?_
  refine Goes.via (B := s₁.setTop (mkF m 11 #[.val (.int p1), .val (.int p2), .val (.int p3), .val (.int p4), .val (.int p5), .val (.int v5), .val (.int (p2.toInt8.toInt32)), .unset, .unset, .unset, .unset, .unset, .unset, .unset, .unset] [])) (fun t k => XS.istore X0.here hx rfl (hb hby at_9) rfl (l' := #[.val (.int p1), .val (.int p2), .val (.int p3), .val (.int p4), .val (.int p5), .val (.int v5), .val (.int (p2.toInt8.toInt32)), .unset, .unset, .unset, .unset, .unset, .unset, .unset, .unset]) rfl k) ?_
  generalize hv6 : (p2.toInt8.toInt32) = v6
  refine Goes.via (B := s₁.setTop (mkF m 12 #[.val (.int p1), .val (.int p2), .val (.int p3), .val (.int p4), .val (.int p5), .val (.int v5), .val (.int v6), .unset, .unset, .unset, .unset, .unset, .unset, .unset, .unset] [(.int p3)])) (fun t k => XS.iloadN X0.here hx rfl (hb hby at_11) rfl k) ?_
  refine Goes.via (B := s₁.setTop (mkF m 13 #[.val (.int p1), .val (.int p2), .val (.int p3), .val (.int p4), .val (.int p5), .val (.int v5), .val (.int v6), .unset, .unset, .unset, .unset, .unset, .unset, .unset, .unset] [(.int (p3.toInt8.toInt32))])) (fun t k => XS.i2b X0.here hx rfl (hb hby at_12) rfl k) ?_
  refine Goes.via (B := s₁.setTop (mkF m 15 #[.val (.int p1), .val (.int p2), .val (.int p3), .val (.int p4), .val (.int p5), .val (.int v5), .val (.int v6), .val (.int (p3.toInt8.toInt32)), .unset, .unset, .unset, .unset, .unset, .unset, .unset] [])) (fun t k => XS.istore X0.here hx rfl (hb hby at_13) rfl (l' := #[.val (.int p1), .val (.int p2), .val (.int p3), .val (.int p4), .val (.int p5), .val (.int v5), .val (.int v6), .val (.int (p3.toInt8.toInt32)), .unset, .unset, .unset, .unset, .unset, .unset, .unset]) rfl k) ?_
  generalize hv7 : (p3.toInt8.toInt32) = v7
  refine Goes.via (B := s₁.setTop (mkF m 16 #[.val (.int p1), .val (.int p2), .val (.int p3), .val (.int p4), .val (.int p5), .val (.int v5), .val (.int v6), .val (.int v7), .unset, .unset, .unset, .unset, .unset, .unset, .unset] [(.int p4)])) (fun t k => XS.iloadN X0.here hx rfl (hb hby at_15) rfl k) ?_
  refine Goes.via (B := s₁.setTop (mkF m 17 #[.val (.int p1), .val (.int p2), .val (.int p3), .val (.int p4), .val (.int p5), .val (.int v5), .val (.int v6), .val (.int v7), .unset, .unset, .unset, .unset, .unset, .unset, .unset] [(.int (p4.toInt8.toInt32))])) (fun t k => XS.i2b X0.here hx rfl (hb hby at_16) rfl k) ?_
  refine Goes.via (B := s₁.setTop (mkF m 19 #[.val (.int p1), .val (.int p2), .val (.int p3), .val (.int p4), .val (.int p5), .val (.int v5), .val (.int v6), .val (.int v7), .val (.int (p4.toInt8.toInt32)), .unset, .unset, .unset, .unset, .unset, .unset] [])) (fun t k => XS.istore X0.here hx rfl (hb hby at_17) rfl (l' := #[.val (.int p1), .val (.int p2), .val (.int p3), .val (.int p4), .val (.int p5), .val (.int v5), .val (.int v6), .val (.int v7), .val (.int (p4.toInt8.toInt32)), .unset, .unset, .unset, .unset, .unset, .unset]) rfl k) ?_
  generalize hv8 : (p4.toInt8.toInt32) = v8
  refine Goes.via (B := s₁.setTop (mkF m 21 #[.val (.int p1), .val (.int p2), .val (.int p3), .val (.int p4), .val (.int p5), .val (.int v5), .val (.int v6), .val (.int v7), .val (.int v8), .unset, .unset, .unset, .unset, .unset, .unset] [(.int p5)])) (fun t k => XS.iload X0.here hx rfl (hb hby at_19) rfl k) ?_
  refine Goes.via (B := s₁.setTop (mkF m 23 #[.val (.int p1), .val (.int p2), .val (.int p3), .val (.int p4), .val (.int p5), .val (.int v5), .val (.int v6), .val (.int v7), .val (.int v8), .unset, .unset, .unset, .unset, .unset, .unset] [(.int (2147483647 : Int32)), (.int p5)])) (fun t k => X0.ldcInt hx hown (mvT hZ (hw _ (List.mem_of_getElem? (i := 0) rfl))) (g := (mkF m 21 #[.val (.int p1), .val (.int p2), .val (.int p3), .val (.int p4), .val (.int p5), .val (.int v5), .val (.int v6), .val (.int v7), .val (.int v8), .unset, .unset, .unset, .unset, .unset, .unset] [(.int p5)])) rfl (hb hby at_21) _ k) ?_
  refine Goes.via (B := s₁.setTop (mkF m 24 #[.val (.int p1), .val (.int p2), .val (.int p3), .val (.int p4), .val (.int p5), .val (.int v5), .val (.int v6), .val (.int v7), .val (.int v8), .unset, .unset, .unset, .unset, .unset, .unset] [(.int (p5 &&& (2147483647 : Int32)))])) (fun t k => XS.iand X0.here hx rfl (hb hby at_23) rfl k) ?_
  refine Goes.via (B := s₁.setTop (mkF m 26 #[.val (.int p1), .val (.int p2), .val (.int p3), .val (.int p4), .val (.int p5), .val (.int v5), .val (.int v6), .val (.int v7), .val (.int v8), .unset, .unset, .unset, .unset, .unset, .unset] [(.int (127 : Int32)), (.int (p5 &&& (2147483647 : Int32)))])) (fun t k => XS.bipush X0.here hx rfl (hb hby at_24) k) ?_
  refine Goes.via (B := s₁.setTop (mkF m 27 #[.val (.int p1), .val (.int p2), .val (.int p3), .val (.int p4), .val (.int p5), .val (.int v5), .val (.int v6), .val (.int v7), .val (.int v8), .unset, .unset, .unset, .unset, .unset, .unset] [(.int ((p5 &&& (2147483647 : Int32)) % (127 : Int32)))])) (fun t k => iremM X0 hx rfl (hb hby at_26) rfl (by decide) k) ?_
  refine Goes.via (B := s₁.setTop (mkF m 28 #[.val (.int p1), .val (.int p2), .val (.int p3), .val (.int p4), .val (.int p5), .val (.int v5), .val (.int v6), .val (.int v7), .val (.int v8), .unset, .unset, .unset, .unset, .unset, .unset] [(.int (1 : Int32)), (.int ((p5 &&& (2147483647 : Int32)) % (127 : Int32)))])) (fun t k => XS.iconst X0.here hx rfl (hb hby at_27) k) ?_
  refine Goes.via (B := s₁.setTop (mkF m 29 #[.val (.int p1), .val (.int p2), .val (.int p3), .val (.int p4), .val (.int p5), .val (.int v5), .val (.int v6), .val (.int v7), .val (.int v8), .unset, .unset, .unset, .unset, .unset, .unset] [(.int (((p5 &&& (2147483647 : Int32)) % (127 : Int32)) + (1 : Int32)))])) (fun t k => XS.iadd X0.here hx rfl (hb hby at_28) rfl k) ?_
  refine Goes.via (B := s₁.setTop (mkF m 30 #[.val (.int p1), .val (.int p2), .val (.int p3), .val (.int p4), .val (.int p5), .val (.int v5), .val (.int v6), .val (.int v7), .val (.int v8), .unset, .unset, .unset, .unset, .unset, .unset] [(.int ((((p5 &&& (2147483647 : Int32)) % (127 : Int32)) + (1 : Int32)).toInt8.toInt32))])) (fun t k => XS.i2b X0.here hx rfl (hb hby at_29) rfl k) ?_
  refine Goes.via (B := s₁.setTop (mkF m 32 #[.val (.int p1), .val (.int p2), .val (.int p3), .val (.int p4), .val (.int p5), .val (.int v5), .val (.int v6), .val (.int v7), .val (.int v8), .val (.int ((((p5 &&& (2147483647 : Int32)) % (127 : Int32)) + (1 : Int32)).toInt8.toInt32)), .unset, .unset, .unset, .unset, .unset] [])) (fun t k => XS.istore X0.here hx rfl (hb hby at_30) rfl (l' := #[.val (.int p1), .val (.int p2), .val (.int p3), .val (.int p4), .val (.int p5), .val (.int v5), .val (.int v6), .val (.int v7), .val (.int v8), .val (.int ((((p5 &&& (2147483647 : Int32)) % (127 : Int32)) + (1 : Int32)).toInt8.toInt32)), .unset, .unset, .unset, .unset, .unset]) rfl k) ?_
  generalize hv9 : ((((p5 &&& (2147483647 : Int32)) % (127 : Int32)) + (1 : Int32)).toInt8.toInt32) = v9
  refine Goes.via (B := s₁.setTop (mkF m 34 #[.val (.int p1), .val (.int p2), .val (.int p3), .val (.int p4), .val (.int p5), .val (.int v5), .val (.int v6), .val (.int v7), .val (.int v8), .val (.int v9), .unset, .unset, .unset, .unset, .unset] [(.int v9)])) (fun t k => XS.iload X0.here hx rfl (hb hby at_32) rfl k) ?_
  refine Goes.via (B := s₁.setTop (mkF m 35 #[.val (.int p1), .val (.int p2), .val (.int p3), .val (.int p4), .val (.int p5), .val (.int v5), .val (.int v6), .val (.int v7), .val (.int v8), .val (.int v9), .unset, .unset, .unset, .unset, .unset] [(.int (1 : Int32)), (.int v9)])) (fun t k => XS.iconst X0.here hx rfl (hb hby at_34) k) ?_
  refine Goes.via (B := s₁.setTop (mkF m 36 #[.val (.int p1), .val (.int p2), .val (.int p3), .val (.int p4), .val (.int p5), .val (.int v5), .val (.int v6), .val (.int v7), .val (.int v8), .val (.int v9), .unset, .unset, .unset, .unset, .unset] [(.int (v9 + (1 : Int32)))])) (fun t k => XS.iadd X0.here hx rfl (hb hby at_35) rfl k) ?_
  refine Goes.via (B := s₁.setTop (mkF m 37 #[.val (.int p1), .val (.int p2), .val (.int p3), .val (.int p4), .val (.int p5), .val (.int v5), .val (.int v6), .val (.int v7), .val (.int v8), .val (.int v9), .unset, .unset, .unset, .unset, .unset] [(.int ((v9 + (1 : Int32)).toInt8.toInt32))])) (fun t k => XS.i2b X0.here hx rfl (hb hby at_36) rfl k) ?_
  refine Goes.via (B := s₁.setTop (mkF m 39 #[.val (.int p1), .val (.int p2), .val (.int p3), .val (.int p4), .val (.int p5), .val (.int v5), .val (.int v6), .val (.int v7), .val (.int v8), .val (.int v9), .val (.int ((v9 + (1 : Int32)).toInt8.toInt32)), .unset, .unset, .unset, .unset] [])) (fun t k => XS.istore X0.here hx rfl (hb hby at_37) rfl (l' := #[.val (.int p1), .val (.int p2), .val (.int p3), .val (.int p4), .val (.int p5), .val (.int v5), .val (.int v6), .val (.int v7), .val (.int v8), .val (.int v9), .val (.int ((v9 + (1 : Int32)).toInt8.toInt32)), .unset, .unset, .unset, .unset]) rfl k) ?_
  generalize hv10 : ((v9 + (1 : Int32)).toInt8.toInt32) = v10
  rcases own_n hv5 with rfl | rfl | rfl | rfl
  · refine Goes.via (B := s₁.setTop (mkF m 41 #[.val (.int p1), .val (.int p2), .val (.int p3), .val (.int p4), .val (.int p5), .val (.int (1 : Int32)), .val (.int v6), .val (.int v7), .val (.int v8), .val (.int v9), .val (.int v10), .unset, .unset, .unset, .unset] [(.int (1 : Int32))])) (fun t k => XS.iload X0.here hx rfl (hb hby at_39) rfl k) ?_
    refine Goes.via (B := s₁.setTop (mkF m 43 #[.val (.int p1), .val (.int p2), .val (.int p3), .val (.int p4), .val (.int p5), .val (.int (1 : Int32)), .val (.int v6), .val (.int v7), .val (.int v8), .val (.int v9), .val (.int v10), .unset, .unset, .unset, .unset] [(.int v6), (.int (1 : Int32))])) (fun t k => XS.iload X0.here hx rfl (hb hby at_41) rfl k) ?_
    refine Goes.via (B := s₁.setTop (mkF m 45 #[.val (.int p1), .val (.int p2), .val (.int p3), .val (.int p4), .val (.int p5), .val (.int (1 : Int32)), .val (.int v6), .val (.int v7), .val (.int v8), .val (.int v9), .val (.int v10), .unset, .unset, .unset, .unset] [(.int v7), (.int v6), (.int (1 : Int32))])) (fun t k => XS.iload X0.here hx rfl (hb hby at_43) rfl k) ?_
    refine Goes.via (B := s₁.setTop (mkF m 47 #[.val (.int p1), .val (.int p2), .val (.int p3), .val (.int p4), .val (.int p5), .val (.int (1 : Int32)), .val (.int v6), .val (.int v7), .val (.int v8), .val (.int v9), .val (.int v10), .unset, .unset, .unset, .unset] [(.int v8), (.int v7), (.int v6), (.int (1 : Int32))])) (fun t k => XS.iload X0.here hx rfl (hb hby at_45) rfl k) ?_
    refine Goes.via (B := s₁.setTop (mkF m 49 #[.val (.int p1), .val (.int p2), .val (.int p3), .val (.int p4), .val (.int p5), .val (.int (1 : Int32)), .val (.int v6), .val (.int v7), .val (.int v8), .val (.int v9), .val (.int v10), .unset, .unset, .unset, .unset] [(.int v9), (.int v8), (.int v7), (.int v6), (.int (1 : Int32))])) (fun t k => XS.iload X0.here hx rfl (hb hby at_47) rfl k) ?_
    obtain ⟨_, _, ⟨T1, L1, kk1, nn1⟩, -, X1, ⟨Lc1, hQ1, l1, y1, z1⟩, st1⟩ := Jvm.LawKit.callS X0 hx (y := (⟨"com/example/highwater/highwater/embedded/KeysPrefixEndPinLaw", "make", "(IBBBB)[B"⟩ : MethodName)) hown (mvT hZ (hw _ (List.mem_of_getElem? (i := 1) rfl))) (mvT hZ (hw _ (List.mem_of_getElem? (i := 2) rfl))) (mvT hZ (hw _ (List.mem_of_getElem? (i := 3) rfl))) (mvT hZ (hw _ (List.mem_of_getElem? (i := 4) rfl))) (by decide) (backOf (W := 0) (rm1_1 l Z a0 hw [] v6 v7 v8 v9 h0 n0 Z0 ) hZ (hw _ (List.mem_of_getElem? (i := 4) rfl)) (hw _ (List.mem_of_getElem? (i := 3) rfl)) (by decide) (by decide)) (g := (mkF m 49 #[.val (.int p1), .val (.int p2), .val (.int p3), .val (.int p4), .val (.int p5), .val (.int (1 : Int32)), .val (.int v6), .val (.int v7), .val (.int v8), .val (.int v9), .val (.int v10), .unset, .unset, .unset, .unset] [(.int v9), (.int v8), (.int v7), (.int v6), (.int (1 : Int32))])) rfl (by rw [hml]; rfl) (argsL := [(.int (1 : Int32)), (.int v6), (.int v7), (.int v8), (.int v9)]) (rest := []) (lenOf pd__IBBBB__B rfl) rfl (by show 2 * 0 + _ ≤ _; exact Nat.le_of_eq rfl) (hb hby at_49) (fun _ _ => ⟨rfl, e0, (by decide : 0 + 1 ≤ _), (by decide : 0 + 1 ≤ _)⟩)
    dsimp only [Pt.U, Pt.locs, Pt.cells, Pt.slots] at X1 l1 y1 z1 st1 hQ1
    subst l1 y1 z1
    obtain ⟨rfl, Nq1, Kq1, Eq1, ⟨kq1, Vq1⟩⟩ := hQ1
    have N1 := Fr.app N0 Nq1
    obtain ⟨r1, g1⟩ : ∃ z, z = h0.size := ⟨_, rfl⟩
    rw [← g1] at Vq1 st1 Eq1
    have g_r1 : n0 ≤ r1 := Nat.le_trans Z0 (Nat.le_of_eq g1.symm)
    have Z1 : n0 ≤ T1.heap.size := Nat.le_trans Z0 Kq1.1
    have eq1 : T1.heap = T1.heap := rfl
    refine Goes.via (B := T1.setTop (mkF m 52 #[.val (.int p1), .val (.int p2), .val (.int p3), .val (.int p4), .val (.int p5), .val (.int (1 : Int32)), .val (.int v6), .val (.int v7), .val (.int v8), .val (.int v9), .val (.int v10), .unset, .unset, .unset, .unset] [(.ref r1)])) st1 ?_
    refine Goes.via (B := T1.setTop (mkF m 54 #[.val (.int p1), .val (.int p2), .val (.int p3), .val (.int p4), .val (.int p5), .val (.int (1 : Int32)), .val (.int v6), .val (.int v7), .val (.int v8), .val (.int v9), .val (.int v10), .val (.ref r1), .unset, .unset, .unset] [])) (fun t k => XS.astore X1.here hx rfl (hb hby at_52) rfl rfl (l' := #[.val (.int p1), .val (.int p2), .val (.int p3), .val (.int p4), .val (.int p5), .val (.int (1 : Int32)), .val (.int v6), .val (.int v7), .val (.int v8), .val (.int v9), .val (.int v10), .val (.ref r1), .unset, .unset, .unset]) rfl k) ?_
    refine Goes.via (B := T1.setTop (mkF m 56 #[.val (.int p1), .val (.int p2), .val (.int p3), .val (.int p4), .val (.int p5), .val (.int (1 : Int32)), .val (.int v6), .val (.int v7), .val (.int v8), .val (.int v9), .val (.int v10), .val (.ref r1), .unset, .unset, .unset] [(.int (1 : Int32))])) (fun t k => XS.iload X1.here hx rfl (hb hby at_54) rfl k) ?_
    refine Goes.via (B := T1.setTop (mkF m 58 #[.val (.int p1), .val (.int p2), .val (.int p3), .val (.int p4), .val (.int p5), .val (.int (1 : Int32)), .val (.int v6), .val (.int v7), .val (.int v8), .val (.int v9), .val (.int v10), .val (.ref r1), .unset, .unset, .unset] [(.int v6), (.int (1 : Int32))])) (fun t k => XS.iload X1.here hx rfl (hb hby at_56) rfl k) ?_
    refine Goes.via (B := T1.setTop (mkF m 60 #[.val (.int p1), .val (.int p2), .val (.int p3), .val (.int p4), .val (.int p5), .val (.int (1 : Int32)), .val (.int v6), .val (.int v7), .val (.int v8), .val (.int v9), .val (.int v10), .val (.ref r1), .unset, .unset, .unset] [(.int v7), (.int v6), (.int (1 : Int32))])) (fun t k => XS.iload X1.here hx rfl (hb hby at_58) rfl k) ?_
    refine Goes.via (B := T1.setTop (mkF m 62 #[.val (.int p1), .val (.int p2), .val (.int p3), .val (.int p4), .val (.int p5), .val (.int (1 : Int32)), .val (.int v6), .val (.int v7), .val (.int v8), .val (.int v9), .val (.int v10), .val (.ref r1), .unset, .unset, .unset] [(.int v8), (.int v7), (.int v6), (.int (1 : Int32))])) (fun t k => XS.iload X1.here hx rfl (hb hby at_60) rfl k) ?_
    refine Goes.via (B := T1.setTop (mkF m 64 #[.val (.int p1), .val (.int p2), .val (.int p3), .val (.int p4), .val (.int p5), .val (.int (1 : Int32)), .val (.int v6), .val (.int v7), .val (.int v8), .val (.int v9), .val (.int v10), .val (.ref r1), .unset, .unset, .unset] [(.int v9), (.int v8), (.int v7), (.int v6), (.int (1 : Int32))])) (fun t k => XS.iload X1.here hx rfl (hb hby at_62) rfl k) ?_
    obtain ⟨_, _, ⟨T2, L2, kk2, nn2⟩, -, X2, ⟨Lc2, hQ2, l2, y2, z2⟩, st2⟩ := Jvm.LawKit.callS X1 hx (y := (⟨"com/example/highwater/highwater/embedded/KeysPrefixEndPinLaw", "make", "(IBBBB)[B"⟩ : MethodName)) hown (mvT hZ (hw _ (List.mem_of_getElem? (i := 1) rfl))) (mvT hZ (hw _ (List.mem_of_getElem? (i := 2) rfl))) (mvT hZ (hw _ (List.mem_of_getElem? (i := 3) rfl))) (mvT hZ (hw _ (List.mem_of_getElem? (i := 4) rfl))) (by decide) (backOf (W := 0) (rm1_1 l Z a0 hw [] v6 v7 v8 v9 T1.heap n0 Z1 ) hZ (hw _ (List.mem_of_getElem? (i := 4) rfl)) (hw _ (List.mem_of_getElem? (i := 3) rfl)) (by decide) (by decide)) (g := (mkF m 64 #[.val (.int p1), .val (.int p2), .val (.int p3), .val (.int p4), .val (.int p5), .val (.int (1 : Int32)), .val (.int v6), .val (.int v7), .val (.int v8), .val (.int v9), .val (.int v10), .val (.ref r1), .unset, .unset, .unset] [(.int v9), (.int v8), (.int v7), (.int v6), (.int (1 : Int32))])) rfl (by rw [hml]; rfl) (argsL := [(.int (1 : Int32)), (.int v6), (.int v7), (.int v8), (.int v9)]) (rest := []) (lenOf pd__IBBBB__B rfl) rfl (by show 2 * 0 + _ ≤ _; exact Nat.le_of_eq rfl) (hb hby at_64) (fun _ _ => ⟨rfl, eq1, (by decide : 1 + 1 ≤ _), (by decide : 1 + 1 ≤ _)⟩)
    dsimp only [Pt.U, Pt.locs, Pt.cells, Pt.slots] at X2 l2 y2 z2 st2 hQ2
    subst l2 y2 z2
    obtain ⟨rfl, Nq2, Kq2, Eq2, ⟨kq2, Vq2⟩⟩ := hQ2
    have N2 := Fr.app N1 Nq2
    obtain ⟨r2, g2⟩ : ∃ z, z = T1.heap.size := ⟨_, rfl⟩
    rw [← g2] at Vq2 st2 Eq2
    have ne_r1_r2 : r1 ≠ r2 := Nat.ne_of_lt (Nat.lt_of_lt_of_le Vq1.lt (Nat.le_of_eq g2.symm))
    have Vr1_2 := Vq1.keep Kq2 nin0
    have Er1_2 := Eq1.keep Kq2
    have g_r2 : n0 ≤ r2 := Nat.le_trans Z1 (Nat.le_of_eq g2.symm)
    have Z2 : n0 ≤ T2.heap.size := Nat.le_trans Z1 Kq2.1
    have eq2 : T2.heap = T2.heap := rfl
    refine Goes.via (B := T2.setTop (mkF m 67 #[.val (.int p1), .val (.int p2), .val (.int p3), .val (.int p4), .val (.int p5), .val (.int (1 : Int32)), .val (.int v6), .val (.int v7), .val (.int v8), .val (.int v9), .val (.int v10), .val (.ref r1), .unset, .unset, .unset] [(.ref r2)])) st2 ?_
    refine Goes.via (B := T2.setTop (mkF m 69 #[.val (.int p1), .val (.int p2), .val (.int p3), .val (.int p4), .val (.int p5), .val (.int (1 : Int32)), .val (.int v6), .val (.int v7), .val (.int v8), .val (.int v9), .val (.int v10), .val (.ref r1), .val (.ref r2), .unset, .unset] [])) (fun t k => XS.astore X2.here hx rfl (hb hby at_67) rfl rfl (l' := #[.val (.int p1), .val (.int p2), .val (.int p3), .val (.int p4), .val (.int p5), .val (.int (1 : Int32)), .val (.int v6), .val (.int v7), .val (.int v8), .val (.int v9), .val (.int v10), .val (.ref r1), .val (.ref r2), .unset, .unset]) rfl k) ?_
    refine Goes.via (B := T2.setTop (mkF m 71 #[.val (.int p1), .val (.int p2), .val (.int p3), .val (.int p4), .val (.int p5), .val (.int (1 : Int32)), .val (.int v6), .val (.int v7), .val (.int v8), .val (.int v9), .val (.int v10), .val (.ref r1), .val (.ref r2), .unset, .unset] [(.int (1 : Int32))])) (fun t k => XS.iload X2.here hx rfl (hb hby at_69) rfl k) ?_
    refine Goes.via (B := T2.setTop (mkF m 73 #[.val (.int p1), .val (.int p2), .val (.int p3), .val (.int p4), .val (.int p5), .val (.int (1 : Int32)), .val (.int v6), .val (.int v7), .val (.int v8), .val (.int v9), .val (.int v10), .val (.ref r1), .val (.ref r2), .unset, .unset] [(.int v6), (.int (1 : Int32))])) (fun t k => XS.iload X2.here hx rfl (hb hby at_71) rfl k) ?_
    refine Goes.via (B := T2.setTop (mkF m 75 #[.val (.int p1), .val (.int p2), .val (.int p3), .val (.int p4), .val (.int p5), .val (.int (1 : Int32)), .val (.int v6), .val (.int v7), .val (.int v8), .val (.int v9), .val (.int v10), .val (.ref r1), .val (.ref r2), .unset, .unset] [(.int v7), (.int v6), (.int (1 : Int32))])) (fun t k => XS.iload X2.here hx rfl (hb hby at_73) rfl k) ?_
    refine Goes.via (B := T2.setTop (mkF m 77 #[.val (.int p1), .val (.int p2), .val (.int p3), .val (.int p4), .val (.int p5), .val (.int (1 : Int32)), .val (.int v6), .val (.int v7), .val (.int v8), .val (.int v9), .val (.int v10), .val (.ref r1), .val (.ref r2), .unset, .unset] [(.int v8), (.int v7), (.int v6), (.int (1 : Int32))])) (fun t k => XS.iload X2.here hx rfl (hb hby at_75) rfl k) ?_
    refine Goes.via (B := T2.setTop (mkF m 79 #[.val (.int p1), .val (.int p2), .val (.int p3), .val (.int p4), .val (.int p5), .val (.int (1 : Int32)), .val (.int v6), .val (.int v7), .val (.int v8), .val (.int v9), .val (.int v10), .val (.ref r1), .val (.ref r2), .unset, .unset] [(.int v10), (.int v8), (.int v7), (.int v6), (.int (1 : Int32))])) (fun t k => XS.iload X2.here hx rfl (hb hby at_77) rfl k) ?_
    obtain ⟨_, _, ⟨T3, L3, kk3, nn3⟩, -, X3, ⟨Lc3, hQ3, l3, y3, z3⟩, st3⟩ := Jvm.LawKit.callS X2 hx (y := (⟨"com/example/highwater/highwater/embedded/KeysPrefixEndPinLaw", "make", "(IBBBB)[B"⟩ : MethodName)) hown (mvT hZ (hw _ (List.mem_of_getElem? (i := 1) rfl))) (mvT hZ (hw _ (List.mem_of_getElem? (i := 2) rfl))) (mvT hZ (hw _ (List.mem_of_getElem? (i := 3) rfl))) (mvT hZ (hw _ (List.mem_of_getElem? (i := 4) rfl))) (by decide) (backOf (W := 0) (rm1_1 l Z a0 hw [] v6 v7 v8 v10 T2.heap n0 Z2 ) hZ (hw _ (List.mem_of_getElem? (i := 4) rfl)) (hw _ (List.mem_of_getElem? (i := 3) rfl)) (by decide) (by decide)) (g := (mkF m 79 #[.val (.int p1), .val (.int p2), .val (.int p3), .val (.int p4), .val (.int p5), .val (.int (1 : Int32)), .val (.int v6), .val (.int v7), .val (.int v8), .val (.int v9), .val (.int v10), .val (.ref r1), .val (.ref r2), .unset, .unset] [(.int v10), (.int v8), (.int v7), (.int v6), (.int (1 : Int32))])) rfl (by rw [hml]; rfl) (argsL := [(.int (1 : Int32)), (.int v6), (.int v7), (.int v8), (.int v10)]) (rest := []) (lenOf pd__IBBBB__B rfl) rfl (by show 2 * 0 + _ ≤ _; exact Nat.le_of_eq rfl) (hb hby at_79) (fun _ _ => ⟨rfl, eq2, (by decide : 2 + 1 ≤ _), (by decide : 2 + 1 ≤ _)⟩)
    dsimp only [Pt.U, Pt.locs, Pt.cells, Pt.slots] at X3 l3 y3 z3 st3 hQ3
    subst l3 y3 z3
    obtain ⟨rfl, Nq3, Kq3, Eq3, ⟨kq3, Vq3⟩⟩ := hQ3
    have N3 := Fr.app N2 Nq3
    obtain ⟨r3, g3⟩ : ∃ z, z = T2.heap.size := ⟨_, rfl⟩
    rw [← g3] at Vq3 st3 Eq3
    have ne_r1_r3 : r1 ≠ r3 := Nat.ne_of_lt (Nat.lt_of_lt_of_le Vr1_2.lt (Nat.le_of_eq g3.symm))
    have ne_r2_r3 : r2 ≠ r3 := Nat.ne_of_lt (Nat.lt_of_lt_of_le Vq2.lt (Nat.le_of_eq g3.symm))
    have Vr1_3 := Vr1_2.keep Kq3 nin0
    have Vr2_3 := Vq2.keep Kq3 nin0
    have Er1_3 := Er1_2.keep Kq3
    have Er2_3 := Eq2.keep Kq3
    have g_r3 : n0 ≤ r3 := Nat.le_trans Z2 (Nat.le_of_eq g3.symm)
    have Z3 : n0 ≤ T3.heap.size := Nat.le_trans Z2 Kq3.1
    have eq3 : T3.heap = T3.heap := rfl
    refine Goes.via (B := T3.setTop (mkF m 82 #[.val (.int p1), .val (.int p2), .val (.int p3), .val (.int p4), .val (.int p5), .val (.int (1 : Int32)), .val (.int v6), .val (.int v7), .val (.int v8), .val (.int v9), .val (.int v10), .val (.ref r1), .val (.ref r2), .unset, .unset] [(.ref r3)])) st3 ?_
    refine Goes.via (B := T3.setTop (mkF m 84 #[.val (.int p1), .val (.int p2), .val (.int p3), .val (.int p4), .val (.int p5), .val (.int (1 : Int32)), .val (.int v6), .val (.int v7), .val (.int v8), .val (.int v9), .val (.int v10), .val (.ref r1), .val (.ref r2), .val (.ref r3), .unset] [])) (fun t k => XS.astore X3.here hx rfl (hb hby at_82) rfl rfl (l' := #[.val (.int p1), .val (.int p2), .val (.int p3), .val (.int p4), .val (.int p5), .val (.int (1 : Int32)), .val (.int v6), .val (.int v7), .val (.int v8), .val (.int v9), .val (.int v10), .val (.ref r1), .val (.ref r2), .val (.ref r3), .unset]) rfl k) ?_
    refine Goes.via (B := T3.setTop (mkF m 86 #[.val (.int p1), .val (.int p2), .val (.int p3), .val (.int p4), .val (.int p5), .val (.int (1 : Int32)), .val (.int v6), .val (.int v7), .val (.int v8), .val (.int v9), .val (.int v10), .val (.ref r1), .val (.ref r2), .val (.ref r3), .unset] [(.ref r1)])) (fun t k => XS.aload X3.here hx rfl (hb hby at_84) rfl rfl k) ?_
    obtain ⟨_, _, ⟨T4, L4, kk4, nn4⟩, -, X4, ⟨Lc4, hQ4, l4, y4, z4⟩, st4⟩ := Jvm.LawKit.callS X3 hx (y := (⟨"com/example/highwater/highwater/embedded/Keys", "prefixEnd", "([B)[B"⟩ : MethodName)) hown (mvT hZ (hw _ (List.mem_of_getElem? (i := 6) rfl))) (mvT hZ (hw _ (List.mem_of_getElem? (i := 7) rfl))) (mvT hZ (hw _ (List.mem_of_getElem? (i := 8) rfl))) (mvT hZ (hw _ (List.mem_of_getElem? (i := 9) rfl))) (by decide) (backOf (W := 0) (rm2_1 l Z a0 hw [] r1 kq1 (nar .byte v9) T3.heap n0 Z3 Vr1_3 Er1_3) hZ (hw _ (List.mem_of_getElem? (i := 9) rfl)) (hw _ (List.mem_of_getElem? (i := 8) rfl)) (by decide) (by decide)) (g := (mkF m 86 #[.val (.int p1), .val (.int p2), .val (.int p3), .val (.int p4), .val (.int p5), .val (.int (1 : Int32)), .val (.int v6), .val (.int v7), .val (.int v8), .val (.int v9), .val (.int v10), .val (.ref r1), .val (.ref r2), .val (.ref r3), .unset] [(.ref r1)])) rfl (by rw [hml]; rfl) (argsL := [(.ref r1)]) (rest := []) (lenOf pd___B__B rfl) rfl (by show 2 * 0 + _ ≤ _; exact Nat.le_of_eq rfl) (hb hby at_86) (fun _ _ => ⟨rfl, eq3, (by decide : 3 + 1 ≤ _), (by decide : 3 + 1 ≤ _)⟩)
    dsimp only [Pt.U, Pt.locs, Pt.cells, Pt.slots] at X4 l4 y4 z4 st4 hQ4
    subst l4 y4 z4
    obtain ⟨rfl, Nq4, Kq4, ⟨kq4, Vq4⟩⟩ := hQ4
    have N4 := Fr.app N3 Nq4
    rw [own_nv hv9, hv10] at Vq4
    obtain ⟨r4, g4⟩ : ∃ z, z = T3.heap.size := ⟨_, rfl⟩
    rw [← g4] at Vq4 st4
    have ne_r1_r4 : r1 ≠ r4 := Nat.ne_of_lt (Nat.lt_of_lt_of_le Vr1_3.lt (Nat.le_of_eq g4.symm))
    have ne_r2_r4 : r2 ≠ r4 := Nat.ne_of_lt (Nat.lt_of_lt_of_le Vr2_3.lt (Nat.le_of_eq g4.symm))
    have ne_r3_r4 : r3 ≠ r4 := Nat.ne_of_lt (Nat.lt_of_lt_of_le Vq3.lt (Nat.le_of_eq g4.symm))
    have Vr1_4 := Vr1_3.keep Kq4 nin0
    have Vr2_4 := Vr2_3.keep Kq4 nin0
    have Vr3_4 := Vq3.keep Kq4 nin0
    have Er1_4 := Er1_3.keep Kq4
    have Er2_4 := Er2_3.keep Kq4
    have Er3_4 := Eq3.keep Kq4
    have g_r4 : n0 ≤ r4 := Nat.le_trans Z3 (Nat.le_of_eq g4.symm)
    have Z4 : n0 ≤ T4.heap.size := Nat.le_trans Z3 Kq4.1
    have eq4 : T4.heap = T4.heap := rfl
    refine Goes.via (B := T4.setTop (mkF m 89 #[.val (.int p1), .val (.int p2), .val (.int p3), .val (.int p4), .val (.int p5), .val (.int (1 : Int32)), .val (.int v6), .val (.int v7), .val (.int v8), .val (.int v9), .val (.int v10), .val (.ref r1), .val (.ref r2), .val (.ref r3), .unset] [(.ref r4)])) st4 ?_
    refine Goes.via (B := T4.setTop (mkF m 91 #[.val (.int p1), .val (.int p2), .val (.int p3), .val (.int p4), .val (.int p5), .val (.int (1 : Int32)), .val (.int v6), .val (.int v7), .val (.int v8), .val (.int v9), .val (.int v10), .val (.ref r1), .val (.ref r2), .val (.ref r3), .val (.ref r4)] [])) (fun t k => XS.astore X4.here hx rfl (hb hby at_89) rfl rfl (l' := #[.val (.int p1), .val (.int p2), .val (.int p3), .val (.int p4), .val (.int p5), .val (.int (1 : Int32)), .val (.int v6), .val (.int v7), .val (.int v8), .val (.int v9), .val (.int v10), .val (.ref r1), .val (.ref r2), .val (.ref r3), .val (.ref r4)]) rfl k) ?_
    refine Goes.via (B := T4.setTop (mkF m 93 #[.val (.int p1), .val (.int p2), .val (.int p3), .val (.int p4), .val (.int p5), .val (.int (1 : Int32)), .val (.int v6), .val (.int v7), .val (.int v8), .val (.int v9), .val (.int v10), .val (.ref r1), .val (.ref r2), .val (.ref r3), .val (.ref r4)] [(.ref r4)])) (fun t k => XS.aload X4.here hx rfl (hb hby at_91) rfl rfl k) ?_
    refine Goes.via (B := T4.setTop (mkF m 95 #[.val (.int p1), .val (.int p2), .val (.int p3), .val (.int p4), .val (.int p5), .val (.int (1 : Int32)), .val (.int v6), .val (.int v7), .val (.int v8), .val (.int v9), .val (.int v10), .val (.ref r1), .val (.ref r2), .val (.ref r3), .val (.ref r4)] [(.ref r1), (.ref r4)])) (fun t k => XS.aload X4.here hx rfl (hb hby at_93) rfl rfl k) ?_
    refine Goes.via (B := T4.setTop (mkF m 98 #[.val (.int p1), .val (.int p2), .val (.int p3), .val (.int p4), .val (.int p5), .val (.int (1 : Int32)), .val (.int v6), .val (.int v7), .val (.int v8), .val (.int v9), .val (.int v10), .val (.ref r1), .val (.ref r2), .val (.ref r3), .val (.ref r4)] [])) (fun t k => Jvm.RoadKit.acmp X4 hx rfl (x := (.ref r4)) (y := (.ref r1)) rfl rfl (pc0 := 95) (pc' := 98) rfl (hb hby at_95) rfl (decide_eq_false (fun q => (Ne.symm ne_r1_r4) (Value.ref.inj q))) (by decide) (by decide) k) ?_
    refine Goes.via (B := T4.setTop (mkF m 100 #[.val (.int p1), .val (.int p2), .val (.int p3), .val (.int p4), .val (.int p5), .val (.int (1 : Int32)), .val (.int v6), .val (.int v7), .val (.int v8), .val (.int v9), .val (.int v10), .val (.ref r1), .val (.ref r2), .val (.ref r3), .val (.ref r4)] [(.ref r4)])) (fun t k => XS.aload X4.here hx rfl (hb hby at_98) rfl rfl k) ?_
    refine Goes.via (B := T4.setTop (mkF m 102 #[.val (.int p1), .val (.int p2), .val (.int p3), .val (.int p4), .val (.int p5), .val (.int (1 : Int32)), .val (.int v6), .val (.int v7), .val (.int v8), .val (.int v9), .val (.int v10), .val (.ref r1), .val (.ref r2), .val (.ref r3), .val (.ref r4)] [(.ref r3), (.ref r4)])) (fun t k => XS.aload X4.here hx rfl (hb hby at_100) rfl rfl k) ?_
    refine Goes.via (B := T4.setTop (mkF m 104 #[.val (.int p1), .val (.int p2), .val (.int p3), .val (.int p4), .val (.int p5), .val (.int (1 : Int32)), .val (.int v6), .val (.int v7), .val (.int v8), .val (.int v9), .val (.int v10), .val (.ref r1), .val (.ref r2), .val (.ref r3), .val (.ref r4)] [(.int (1 : Int32)), (.ref r3), (.ref r4)])) (fun t k => XS.iload X4.here hx rfl (hb hby at_102) rfl k) ?_
    obtain ⟨_, _, ⟨T5, L5, kk5, nn5⟩, -, X5, ⟨Lc5, hQ5, l5, y5, z5⟩, st5⟩ := Jvm.LawKit.callS X4 hx (y := (⟨"com/example/highwater/highwater/embedded/KeysPrefixEndPinLaw", "same", "([B[BI)Z"⟩ : MethodName)) hown (mvT hZ (hw _ (List.mem_of_getElem? (i := 19) rfl))) (mvT hZ (hw _ (List.mem_of_getElem? (i := 20) rfl))) (mvT hZ (hw _ (List.mem_of_getElem? (i := 3) rfl))) (mvT hZ (hw _ (List.mem_of_getElem? (i := 21) rfl))) (by decide) (backOf (W := 0) (rm3_1 l Z a0 hw [] r4 r3 kq4 kq3 (nar .byte v10) T4.heap n0 Z4 Vq4 Vr3_4) hZ (hw _ (List.mem_of_getElem? (i := 21) rfl)) (hw _ (List.mem_of_getElem? (i := 3) rfl)) (by decide) (by decide)) (g := (mkF m 104 #[.val (.int p1), .val (.int p2), .val (.int p3), .val (.int p4), .val (.int p5), .val (.int (1 : Int32)), .val (.int v6), .val (.int v7), .val (.int v8), .val (.int v9), .val (.int v10), .val (.ref r1), .val (.ref r2), .val (.ref r3), .val (.ref r4)] [(.int (1 : Int32)), (.ref r3), (.ref r4)])) rfl (by rw [hml]; rfl) (argsL := [(.ref r4), (.ref r3), (.int (1 : Int32))]) (rest := []) (lenOf pd___B_BI_Z rfl) rfl (by show 2 * 0 + _ ≤ _; exact Nat.le_of_eq rfl) (hb hby at_104) (fun _ _ => ⟨rfl, eq4, (by decide : 4 + 0 ≤ _), (by decide : 4 + 0 ≤ _)⟩)
    dsimp only [Pt.U, Pt.locs, Pt.cells, Pt.slots] at X5 l5 y5 z5 st5 hQ5
    subst l5 y5 z5
    obtain ⟨rfl, Nq5, hq5⟩ := hQ5
    have N5 := Fr.app N4 Nq5
    refine Goes.via (B := T5.setTop (mkF m 107 #[.val (.int p1), .val (.int p2), .val (.int p3), .val (.int p4), .val (.int p5), .val (.int (1 : Int32)), .val (.int v6), .val (.int v7), .val (.int v8), .val (.int v9), .val (.int v10), .val (.ref r1), .val (.ref r2), .val (.ref r3), .val (.ref r4)] [(.int (1 : Int32))])) st5 ?_
    refine Goes.via (B := T5.setTop (mkF m 110 #[.val (.int p1), .val (.int p2), .val (.int p3), .val (.int p4), .val (.int p5), .val (.int (1 : Int32)), .val (.int v6), .val (.int v7), .val (.int v8), .val (.int v9), .val (.int v10), .val (.ref r1), .val (.ref r2), .val (.ref r3), .val (.ref r4)] [])) (fun t k => XS.ifNo X5.here hx rfl (hb hby at_107) rfl ((if0 _ _).trans (feq (by decide : ¬ (1 : Int32) = (0 : Int32))).1) k) ?_
    refine Goes.via (B := T5.setTop (mkF m 112 #[.val (.int p1), .val (.int p2), .val (.int p3), .val (.int p4), .val (.int p5), .val (.int (1 : Int32)), .val (.int v6), .val (.int v7), .val (.int v8), .val (.int v9), .val (.int v10), .val (.ref r1), .val (.ref r2), .val (.ref r3), .val (.ref r4)] [(.ref r1)])) (fun t k => XS.aload X5.here hx rfl (hb hby at_110) rfl rfl k) ?_
    refine Goes.via (B := T5.setTop (mkF m 114 #[.val (.int p1), .val (.int p2), .val (.int p3), .val (.int p4), .val (.int p5), .val (.int (1 : Int32)), .val (.int v6), .val (.int v7), .val (.int v8), .val (.int v9), .val (.int v10), .val (.ref r1), .val (.ref r2), .val (.ref r3), .val (.ref r4)] [(.ref r2), (.ref r1)])) (fun t k => XS.aload X5.here hx rfl (hb hby at_112) rfl rfl k) ?_
    refine Goes.via (B := T5.setTop (mkF m 116 #[.val (.int p1), .val (.int p2), .val (.int p3), .val (.int p4), .val (.int p5), .val (.int (1 : Int32)), .val (.int v6), .val (.int v7), .val (.int v8), .val (.int v9), .val (.int v10), .val (.ref r1), .val (.ref r2), .val (.ref r3), .val (.ref r4)] [(.int (1 : Int32)), (.ref r2), (.ref r1)])) (fun t k => XS.iload X5.here hx rfl (hb hby at_114) rfl k) ?_
    obtain ⟨_, _, ⟨T6, L6, kk6, nn6⟩, -, X6, ⟨Lc6, hQ6, l6, y6, z6⟩, st6⟩ := Jvm.LawKit.callS X5 hx (y := (⟨"com/example/highwater/highwater/embedded/KeysPrefixEndPinLaw", "same", "([B[BI)Z"⟩ : MethodName)) hown (mvT hZ (hw _ (List.mem_of_getElem? (i := 19) rfl))) (mvT hZ (hw _ (List.mem_of_getElem? (i := 20) rfl))) (mvT hZ (hw _ (List.mem_of_getElem? (i := 3) rfl))) (mvT hZ (hw _ (List.mem_of_getElem? (i := 21) rfl))) (by decide) (backOf (W := 0) (rm3_1 l Z a0 hw [] r1 r2 kq1 kq2 (nar .byte v9) T4.heap n0 Z4 Vr1_4 Vr2_4) hZ (hw _ (List.mem_of_getElem? (i := 21) rfl)) (hw _ (List.mem_of_getElem? (i := 3) rfl)) (by decide) (by decide)) (g := (mkF m 116 #[.val (.int p1), .val (.int p2), .val (.int p3), .val (.int p4), .val (.int p5), .val (.int (1 : Int32)), .val (.int v6), .val (.int v7), .val (.int v8), .val (.int v9), .val (.int v10), .val (.ref r1), .val (.ref r2), .val (.ref r3), .val (.ref r4)] [(.int (1 : Int32)), (.ref r2), (.ref r1)])) rfl (by rw [hml]; rfl) (argsL := [(.ref r1), (.ref r2), (.int (1 : Int32))]) (rest := []) (lenOf pd___B_BI_Z rfl) rfl (by show 2 * 0 + _ ≤ _; exact Nat.le_of_eq rfl) (hb hby at_116) (fun _ _ => ⟨rfl, hq5, (by decide : 4 + 0 ≤ _), (by decide : 4 + 0 ≤ _)⟩)
    dsimp only [Pt.U, Pt.locs, Pt.cells, Pt.slots] at X6 l6 y6 z6 st6 hQ6
    subst l6 y6 z6
    obtain ⟨rfl, Nq6, hq6⟩ := hQ6
    have N6 := Fr.app N5 Nq6
    refine Goes.via (B := T6.setTop (mkF m 119 #[.val (.int p1), .val (.int p2), .val (.int p3), .val (.int p4), .val (.int p5), .val (.int (1 : Int32)), .val (.int v6), .val (.int v7), .val (.int v8), .val (.int v9), .val (.int v10), .val (.ref r1), .val (.ref r2), .val (.ref r3), .val (.ref r4)] [(.int (1 : Int32))])) st6 ?_
    refine Goes.via (B := T6.setTop (mkF m 122 #[.val (.int p1), .val (.int p2), .val (.int p3), .val (.int p4), .val (.int p5), .val (.int (1 : Int32)), .val (.int v6), .val (.int v7), .val (.int v8), .val (.int v9), .val (.int v10), .val (.ref r1), .val (.ref r2), .val (.ref r3), .val (.ref r4)] [])) (fun t k => XS.ifNo X6.here hx rfl (hb hby at_119) rfl ((if0 _ _).trans (feq (by decide : ¬ (1 : Int32) = (0 : Int32))).1) k) ?_
    refine Goes.via (B := T6.setTop (mkF m 123 #[.val (.int p1), .val (.int p2), .val (.int p3), .val (.int p4), .val (.int p5), .val (.int (1 : Int32)), .val (.int v6), .val (.int v7), .val (.int v8), .val (.int v9), .val (.int v10), .val (.ref r1), .val (.ref r2), .val (.ref r3), .val (.ref r4)] [(.int (1 : Int32))])) (fun t k => XS.iconst X6.here hx rfl (hb hby at_122) k) ?_
    refine Goes.via (B := T6.setTop (mkF m 127 #[.val (.int p1), .val (.int p2), .val (.int p3), .val (.int p4), .val (.int p5), .val (.int (1 : Int32)), .val (.int v6), .val (.int v7), .val (.int v8), .val (.int v9), .val (.int v10), .val (.ref r1), .val (.ref r2), .val (.ref r3), .val (.ref r4)] [(.int (1 : Int32))])) (fun t k => XS.goto X6.here hx rfl (pc0 := 123) (pc' := 127) rfl (hb hby at_123) (by decide) (by decide) k) ?_
    exact own_out X6 (v := some (.int (1 : Int32))) (fun h => by rw [Bd.returns] at h; cases h) Bd.notSynchronized (fun fs hr => retOut X6 hx Bd.returns rfl (Or.inl ⟨rfl, Or.inr (Or.inl rfl), _, rfl⟩) (hb hby at_127) hr) ⟨rfl, N6⟩ (by decide) (by decide)
  · refine Goes.via (B := s₁.setTop (mkF m 41 #[.val (.int p1), .val (.int p2), .val (.int p3), .val (.int p4), .val (.int p5), .val (.int (2 : Int32)), .val (.int v6), .val (.int v7), .val (.int v8), .val (.int v9), .val (.int v10), .unset, .unset, .unset, .unset] [(.int (2 : Int32))])) (fun t k => XS.iload X0.here hx rfl (hb hby at_39) rfl k) ?_
    refine Goes.via (B := s₁.setTop (mkF m 43 #[.val (.int p1), .val (.int p2), .val (.int p3), .val (.int p4), .val (.int p5), .val (.int (2 : Int32)), .val (.int v6), .val (.int v7), .val (.int v8), .val (.int v9), .val (.int v10), .unset, .unset, .unset, .unset] [(.int v6), (.int (2 : Int32))])) (fun t k => XS.iload X0.here hx rfl (hb hby at_41) rfl k) ?_
    refine Goes.via (B := s₁.setTop (mkF m 45 #[.val (.int p1), .val (.int p2), .val (.int p3), .val (.int p4), .val (.int p5), .val (.int (2 : Int32)), .val (.int v6), .val (.int v7), .val (.int v8), .val (.int v9), .val (.int v10), .unset, .unset, .unset, .unset] [(.int v7), (.int v6), (.int (2 : Int32))])) (fun t k => XS.iload X0.here hx rfl (hb hby at_43) rfl k) ?_
    refine Goes.via (B := s₁.setTop (mkF m 47 #[.val (.int p1), .val (.int p2), .val (.int p3), .val (.int p4), .val (.int p5), .val (.int (2 : Int32)), .val (.int v6), .val (.int v7), .val (.int v8), .val (.int v9), .val (.int v10), .unset, .unset, .unset, .unset] [(.int v8), (.int v7), (.int v6), (.int (2 : Int32))])) (fun t k => XS.iload X0.here hx rfl (hb hby at_45) rfl k) ?_
    refine Goes.via (B := s₁.setTop (mkF m 49 #[.val (.int p1), .val (.int p2), .val (.int p3), .val (.int p4), .val (.int p5), .val (.int (2 : Int32)), .val (.int v6), .val (.int v7), .val (.int v8), .val (.int v9), .val (.int v10), .unset, .unset, .unset, .unset] [(.int v9), (.int v8), (.int v7), (.int v6), (.int (2 : Int32))])) (fun t k => XS.iload X0.here hx rfl (hb hby at_47) rfl k) ?_
    obtain ⟨_, _, ⟨T7, L7, kk7, nn7⟩, -, X7, ⟨Lc7, hQ7, l7, y7, z7⟩, st7⟩ := Jvm.LawKit.callS X0 hx (y := (⟨"com/example/highwater/highwater/embedded/KeysPrefixEndPinLaw", "make", "(IBBBB)[B"⟩ : MethodName)) hown (mvT hZ (hw _ (List.mem_of_getElem? (i := 1) rfl))) (mvT hZ (hw _ (List.mem_of_getElem? (i := 2) rfl))) (mvT hZ (hw _ (List.mem_of_getElem? (i := 3) rfl))) (mvT hZ (hw _ (List.mem_of_getElem? (i := 4) rfl))) (by decide) (backOf (W := 0) (rm1_2 l Z a0 hw [] v6 v7 v8 v9 h0 n0 Z0 ) hZ (hw _ (List.mem_of_getElem? (i := 4) rfl)) (hw _ (List.mem_of_getElem? (i := 3) rfl)) (by decide) (by decide)) (g := (mkF m 49 #[.val (.int p1), .val (.int p2), .val (.int p3), .val (.int p4), .val (.int p5), .val (.int (2 : Int32)), .val (.int v6), .val (.int v7), .val (.int v8), .val (.int v9), .val (.int v10), .unset, .unset, .unset, .unset] [(.int v9), (.int v8), (.int v7), (.int v6), (.int (2 : Int32))])) rfl (by rw [hml]; rfl) (argsL := [(.int (2 : Int32)), (.int v6), (.int v7), (.int v8), (.int v9)]) (rest := []) (lenOf pd__IBBBB__B rfl) rfl (by show 2 * 0 + _ ≤ _; exact Nat.le_of_eq rfl) (hb hby at_49) (fun _ _ => ⟨rfl, e0, (by decide : 0 + 1 ≤ _), (by decide : 0 + 2 ≤ _)⟩)
    dsimp only [Pt.U, Pt.locs, Pt.cells, Pt.slots] at X7 l7 y7 z7 st7 hQ7
    subst l7 y7 z7
    obtain ⟨rfl, Nq7, Kq7, Eq7, ⟨kq7, Vq7⟩⟩ := hQ7
    have N7 := Fr.app N0 Nq7
    obtain ⟨r7, g7⟩ : ∃ z, z = h0.size := ⟨_, rfl⟩
    rw [← g7] at Vq7 st7 Eq7
    have g_r7 : n0 ≤ r7 := Nat.le_trans Z0 (Nat.le_of_eq g7.symm)
    have Z7 : n0 ≤ T7.heap.size := Nat.le_trans Z0 Kq7.1
    have eq7 : T7.heap = T7.heap := rfl
    refine Goes.via (B := T7.setTop (mkF m 52 #[.val (.int p1), .val (.int p2), .val (.int p3), .val (.int p4), .val (.int p5), .val (.int (2 : Int32)), .val (.int v6), .val (.int v7), .val (.int v8), .val (.int v9), .val (.int v10), .unset, .unset, .unset, .unset] [(.ref r7)])) st7 ?_
    refine Goes.via (B := T7.setTop (mkF m 54 #[.val (.int p1), .val (.int p2), .val (.int p3), .val (.int p4), .val (.int p5), .val (.int (2 : Int32)), .val (.int v6), .val (.int v7), .val (.int v8), .val (.int v9), .val (.int v10), .val (.ref r7), .unset, .unset, .unset] [])) (fun t k => XS.astore X7.here hx rfl (hb hby at_52) rfl rfl (l' := #[.val (.int p1), .val (.int p2), .val (.int p3), .val (.int p4), .val (.int p5), .val (.int (2 : Int32)), .val (.int v6), .val (.int v7), .val (.int v8), .val (.int v9), .val (.int v10), .val (.ref r7), .unset, .unset, .unset]) rfl k) ?_
    refine Goes.via (B := T7.setTop (mkF m 56 #[.val (.int p1), .val (.int p2), .val (.int p3), .val (.int p4), .val (.int p5), .val (.int (2 : Int32)), .val (.int v6), .val (.int v7), .val (.int v8), .val (.int v9), .val (.int v10), .val (.ref r7), .unset, .unset, .unset] [(.int (2 : Int32))])) (fun t k => XS.iload X7.here hx rfl (hb hby at_54) rfl k) ?_
    refine Goes.via (B := T7.setTop (mkF m 58 #[.val (.int p1), .val (.int p2), .val (.int p3), .val (.int p4), .val (.int p5), .val (.int (2 : Int32)), .val (.int v6), .val (.int v7), .val (.int v8), .val (.int v9), .val (.int v10), .val (.ref r7), .unset, .unset, .unset] [(.int v6), (.int (2 : Int32))])) (fun t k => XS.iload X7.here hx rfl (hb hby at_56) rfl k) ?_
    refine Goes.via (B := T7.setTop (mkF m 60 #[.val (.int p1), .val (.int p2), .val (.int p3), .val (.int p4), .val (.int p5), .val (.int (2 : Int32)), .val (.int v6), .val (.int v7), .val (.int v8), .val (.int v9), .val (.int v10), .val (.ref r7), .unset, .unset, .unset] [(.int v7), (.int v6), (.int (2 : Int32))])) (fun t k => XS.iload X7.here hx rfl (hb hby at_58) rfl k) ?_
    refine Goes.via (B := T7.setTop (mkF m 62 #[.val (.int p1), .val (.int p2), .val (.int p3), .val (.int p4), .val (.int p5), .val (.int (2 : Int32)), .val (.int v6), .val (.int v7), .val (.int v8), .val (.int v9), .val (.int v10), .val (.ref r7), .unset, .unset, .unset] [(.int v8), (.int v7), (.int v6), (.int (2 : Int32))])) (fun t k => XS.iload X7.here hx rfl (hb hby at_60) rfl k) ?_
    refine Goes.via (B := T7.setTop (mkF m 64 #[.val (.int p1), .val (.int p2), .val (.int p3), .val (.int p4), .val (.int p5), .val (.int (2 : Int32)), .val (.int v6), .val (.int v7), .val (.int v8), .val (.int v9), .val (.int v10), .val (.ref r7), .unset, .unset, .unset] [(.int v9), (.int v8), (.int v7), (.int v6), (.int (2 : Int32))])) (fun t k => XS.iload X7.here hx rfl (hb hby at_62) rfl k) ?_
    obtain ⟨_, _, ⟨T8, L8, kk8, nn8⟩, -, X8, ⟨Lc8, hQ8, l8, y8, z8⟩, st8⟩ := Jvm.LawKit.callS X7 hx (y := (⟨"com/example/highwater/highwater/embedded/KeysPrefixEndPinLaw", "make", "(IBBBB)[B"⟩ : MethodName)) hown (mvT hZ (hw _ (List.mem_of_getElem? (i := 1) rfl))) (mvT hZ (hw _ (List.mem_of_getElem? (i := 2) rfl))) (mvT hZ (hw _ (List.mem_of_getElem? (i := 3) rfl))) (mvT hZ (hw _ (List.mem_of_getElem? (i := 4) rfl))) (by decide) (backOf (W := 0) (rm1_2 l Z a0 hw [] v6 v7 v8 v9 T7.heap n0 Z7 ) hZ (hw _ (List.mem_of_getElem? (i := 4) rfl)) (hw _ (List.mem_of_getElem? (i := 3) rfl)) (by decide) (by decide)) (g := (mkF m 64 #[.val (.int p1), .val (.int p2), .val (.int p3), .val (.int p4), .val (.int p5), .val (.int (2 : Int32)), .val (.int v6), .val (.int v7), .val (.int v8), .val (.int v9), .val (.int v10), .val (.ref r7), .unset, .unset, .unset] [(.int v9), (.int v8), (.int v7), (.int v6), (.int (2 : Int32))])) rfl (by rw [hml]; rfl) (argsL := [(.int (2 : Int32)), (.int v6), (.int v7), (.int v8), (.int v9)]) (rest := []) (lenOf pd__IBBBB__B rfl) rfl (by show 2 * 0 + _ ≤ _; exact Nat.le_of_eq rfl) (hb hby at_64) (fun _ _ => ⟨rfl, eq7, (by decide : 1 + 1 ≤ _), (by decide : 2 + 2 ≤ _)⟩)
    dsimp only [Pt.U, Pt.locs, Pt.cells, Pt.slots] at X8 l8 y8 z8 st8 hQ8
    subst l8 y8 z8
    obtain ⟨rfl, Nq8, Kq8, Eq8, ⟨kq8, Vq8⟩⟩ := hQ8
    have N8 := Fr.app N7 Nq8
    obtain ⟨r8, g8⟩ : ∃ z, z = T7.heap.size := ⟨_, rfl⟩
    rw [← g8] at Vq8 st8 Eq8
    have ne_r7_r8 : r7 ≠ r8 := Nat.ne_of_lt (Nat.lt_of_lt_of_le Vq7.lt (Nat.le_of_eq g8.symm))
    have Vr7_8 := Vq7.keep Kq8 nin0
    have Er7_8 := Eq7.keep Kq8
    have g_r8 : n0 ≤ r8 := Nat.le_trans Z7 (Nat.le_of_eq g8.symm)
    have Z8 : n0 ≤ T8.heap.size := Nat.le_trans Z7 Kq8.1
    have eq8 : T8.heap = T8.heap := rfl
    refine Goes.via (B := T8.setTop (mkF m 67 #[.val (.int p1), .val (.int p2), .val (.int p3), .val (.int p4), .val (.int p5), .val (.int (2 : Int32)), .val (.int v6), .val (.int v7), .val (.int v8), .val (.int v9), .val (.int v10), .val (.ref r7), .unset, .unset, .unset] [(.ref r8)])) st8 ?_
    refine Goes.via (B := T8.setTop (mkF m 69 #[.val (.int p1), .val (.int p2), .val (.int p3), .val (.int p4), .val (.int p5), .val (.int (2 : Int32)), .val (.int v6), .val (.int v7), .val (.int v8), .val (.int v9), .val (.int v10), .val (.ref r7), .val (.ref r8), .unset, .unset] [])) (fun t k => XS.astore X8.here hx rfl (hb hby at_67) rfl rfl (l' := #[.val (.int p1), .val (.int p2), .val (.int p3), .val (.int p4), .val (.int p5), .val (.int (2 : Int32)), .val (.int v6), .val (.int v7), .val (.int v8), .val (.int v9), .val (.int v10), .val (.ref r7), .val (.ref r8), .unset, .unset]) rfl k) ?_
    refine Goes.via (B := T8.setTop (mkF m 71 #[.val (.int p1), .val (.int p2), .val (.int p3), .val (.int p4), .val (.int p5), .val (.int (2 : Int32)), .val (.int v6), .val (.int v7), .val (.int v8), .val (.int v9), .val (.int v10), .val (.ref r7), .val (.ref r8), .unset, .unset] [(.int (2 : Int32))])) (fun t k => XS.iload X8.here hx rfl (hb hby at_69) rfl k) ?_
    refine Goes.via (B := T8.setTop (mkF m 73 #[.val (.int p1), .val (.int p2), .val (.int p3), .val (.int p4), .val (.int p5), .val (.int (2 : Int32)), .val (.int v6), .val (.int v7), .val (.int v8), .val (.int v9), .val (.int v10), .val (.ref r7), .val (.ref r8), .unset, .unset] [(.int v6), (.int (2 : Int32))])) (fun t k => XS.iload X8.here hx rfl (hb hby at_71) rfl k) ?_
    refine Goes.via (B := T8.setTop (mkF m 75 #[.val (.int p1), .val (.int p2), .val (.int p3), .val (.int p4), .val (.int p5), .val (.int (2 : Int32)), .val (.int v6), .val (.int v7), .val (.int v8), .val (.int v9), .val (.int v10), .val (.ref r7), .val (.ref r8), .unset, .unset] [(.int v7), (.int v6), (.int (2 : Int32))])) (fun t k => XS.iload X8.here hx rfl (hb hby at_73) rfl k) ?_
    refine Goes.via (B := T8.setTop (mkF m 77 #[.val (.int p1), .val (.int p2), .val (.int p3), .val (.int p4), .val (.int p5), .val (.int (2 : Int32)), .val (.int v6), .val (.int v7), .val (.int v8), .val (.int v9), .val (.int v10), .val (.ref r7), .val (.ref r8), .unset, .unset] [(.int v8), (.int v7), (.int v6), (.int (2 : Int32))])) (fun t k => XS.iload X8.here hx rfl (hb hby at_75) rfl k) ?_
    refine Goes.via (B := T8.setTop (mkF m 79 #[.val (.int p1), .val (.int p2), .val (.int p3), .val (.int p4), .val (.int p5), .val (.int (2 : Int32)), .val (.int v6), .val (.int v7), .val (.int v8), .val (.int v9), .val (.int v10), .val (.ref r7), .val (.ref r8), .unset, .unset] [(.int v10), (.int v8), (.int v7), (.int v6), (.int (2 : Int32))])) (fun t k => XS.iload X8.here hx rfl (hb hby at_77) rfl k) ?_
    obtain ⟨_, _, ⟨T9, L9, kk9, nn9⟩, -, X9, ⟨Lc9, hQ9, l9, y9, z9⟩, st9⟩ := Jvm.LawKit.callS X8 hx (y := (⟨"com/example/highwater/highwater/embedded/KeysPrefixEndPinLaw", "make", "(IBBBB)[B"⟩ : MethodName)) hown (mvT hZ (hw _ (List.mem_of_getElem? (i := 1) rfl))) (mvT hZ (hw _ (List.mem_of_getElem? (i := 2) rfl))) (mvT hZ (hw _ (List.mem_of_getElem? (i := 3) rfl))) (mvT hZ (hw _ (List.mem_of_getElem? (i := 4) rfl))) (by decide) (backOf (W := 0) (rm1_2 l Z a0 hw [] v6 v7 v8 v10 T8.heap n0 Z8 ) hZ (hw _ (List.mem_of_getElem? (i := 4) rfl)) (hw _ (List.mem_of_getElem? (i := 3) rfl)) (by decide) (by decide)) (g := (mkF m 79 #[.val (.int p1), .val (.int p2), .val (.int p3), .val (.int p4), .val (.int p5), .val (.int (2 : Int32)), .val (.int v6), .val (.int v7), .val (.int v8), .val (.int v9), .val (.int v10), .val (.ref r7), .val (.ref r8), .unset, .unset] [(.int v10), (.int v8), (.int v7), (.int v6), (.int (2 : Int32))])) rfl (by rw [hml]; rfl) (argsL := [(.int (2 : Int32)), (.int v6), (.int v7), (.int v8), (.int v10)]) (rest := []) (lenOf pd__IBBBB__B rfl) rfl (by show 2 * 0 + _ ≤ _; exact Nat.le_of_eq rfl) (hb hby at_79) (fun _ _ => ⟨rfl, eq8, (by decide : 2 + 1 ≤ _), (by decide : 4 + 2 ≤ _)⟩)
    dsimp only [Pt.U, Pt.locs, Pt.cells, Pt.slots] at X9 l9 y9 z9 st9 hQ9
    subst l9 y9 z9
    obtain ⟨rfl, Nq9, Kq9, Eq9, ⟨kq9, Vq9⟩⟩ := hQ9
    have N9 := Fr.app N8 Nq9
    obtain ⟨r9, g9⟩ : ∃ z, z = T8.heap.size := ⟨_, rfl⟩
    rw [← g9] at Vq9 st9 Eq9
    have ne_r7_r9 : r7 ≠ r9 := Nat.ne_of_lt (Nat.lt_of_lt_of_le Vr7_8.lt (Nat.le_of_eq g9.symm))
    have ne_r8_r9 : r8 ≠ r9 := Nat.ne_of_lt (Nat.lt_of_lt_of_le Vq8.lt (Nat.le_of_eq g9.symm))
    have Vr7_9 := Vr7_8.keep Kq9 nin0
    have Vr8_9 := Vq8.keep Kq9 nin0
    have Er7_9 := Er7_8.keep Kq9
    have Er8_9 := Eq8.keep Kq9
    have g_r9 : n0 ≤ r9 := Nat.le_trans Z8 (Nat.le_of_eq g9.symm)
    have Z9 : n0 ≤ T9.heap.size := Nat.le_trans Z8 Kq9.1
    have eq9 : T9.heap = T9.heap := rfl
    refine Goes.via (B := T9.setTop (mkF m 82 #[.val (.int p1), .val (.int p2), .val (.int p3), .val (.int p4), .val (.int p5), .val (.int (2 : Int32)), .val (.int v6), .val (.int v7), .val (.int v8), .val (.int v9), .val (.int v10), .val (.ref r7), .val (.ref r8), .unset, .unset] [(.ref r9)])) st9 ?_
    refine Goes.via (B := T9.setTop (mkF m 84 #[.val (.int p1), .val (.int p2), .val (.int p3), .val (.int p4), .val (.int p5), .val (.int (2 : Int32)), .val (.int v6), .val (.int v7), .val (.int v8), .val (.int v9), .val (.int v10), .val (.ref r7), .val (.ref r8), .val (.ref r9), .unset] [])) (fun t k => XS.astore X9.here hx rfl (hb hby at_82) rfl rfl (l' := #[.val (.int p1), .val (.int p2), .val (.int p3), .val (.int p4), .val (.int p5), .val (.int (2 : Int32)), .val (.int v6), .val (.int v7), .val (.int v8), .val (.int v9), .val (.int v10), .val (.ref r7), .val (.ref r8), .val (.ref r9), .unset]) rfl k) ?_
    refine Goes.via (B := T9.setTop (mkF m 86 #[.val (.int p1), .val (.int p2), .val (.int p3), .val (.int p4), .val (.int p5), .val (.int (2 : Int32)), .val (.int v6), .val (.int v7), .val (.int v8), .val (.int v9), .val (.int v10), .val (.ref r7), .val (.ref r8), .val (.ref r9), .unset] [(.ref r7)])) (fun t k => XS.aload X9.here hx rfl (hb hby at_84) rfl rfl k) ?_
    obtain ⟨_, _, ⟨T10, L10, kk10, nn10⟩, -, X10, ⟨Lc10, hQ10, l10, y10, z10⟩, st10⟩ := Jvm.LawKit.callS X9 hx (y := (⟨"com/example/highwater/highwater/embedded/Keys", "prefixEnd", "([B)[B"⟩ : MethodName)) hown (mvT hZ (hw _ (List.mem_of_getElem? (i := 6) rfl))) (mvT hZ (hw _ (List.mem_of_getElem? (i := 7) rfl))) (mvT hZ (hw _ (List.mem_of_getElem? (i := 8) rfl))) (mvT hZ (hw _ (List.mem_of_getElem? (i := 9) rfl))) (by decide) (backOf (W := 0) (rm2_2 l Z a0 hw [] r7 kq7 (nar .byte v6) (nar .byte v9) T9.heap n0 Z9 Vr7_9 Er7_9) hZ (hw _ (List.mem_of_getElem? (i := 9) rfl)) (hw _ (List.mem_of_getElem? (i := 8) rfl)) (by decide) (by decide)) (g := (mkF m 86 #[.val (.int p1), .val (.int p2), .val (.int p3), .val (.int p4), .val (.int p5), .val (.int (2 : Int32)), .val (.int v6), .val (.int v7), .val (.int v8), .val (.int v9), .val (.int v10), .val (.ref r7), .val (.ref r8), .val (.ref r9), .unset] [(.ref r7)])) rfl (by rw [hml]; rfl) (argsL := [(.ref r7)]) (rest := []) (lenOf pd___B__B rfl) rfl (by show 2 * 0 + _ ≤ _; exact Nat.le_of_eq rfl) (hb hby at_86) (fun _ _ => ⟨rfl, eq9, (by decide : 3 + 1 ≤ _), (by decide : 6 + 2 ≤ _)⟩)
    dsimp only [Pt.U, Pt.locs, Pt.cells, Pt.slots] at X10 l10 y10 z10 st10 hQ10
    subst l10 y10 z10
    obtain ⟨rfl, Nq10, Kq10, ⟨kq10, Vq10⟩⟩ := hQ10
    have N10 := Fr.app N9 Nq10
    rw [own_nv hv9, hv10] at Vq10
    obtain ⟨r10, g10⟩ : ∃ z, z = T9.heap.size := ⟨_, rfl⟩
    rw [← g10] at Vq10 st10
    have ne_r7_r10 : r7 ≠ r10 := Nat.ne_of_lt (Nat.lt_of_lt_of_le Vr7_9.lt (Nat.le_of_eq g10.symm))
    have ne_r8_r10 : r8 ≠ r10 := Nat.ne_of_lt (Nat.lt_of_lt_of_le Vr8_9.lt (Nat.le_of_eq g10.symm))
    have ne_r9_r10 : r9 ≠ r10 := Nat.ne_of_lt (Nat.lt_of_lt_of_le Vq9.lt (Nat.le_of_eq g10.symm))
    have Vr7_10 := Vr7_9.keep Kq10 nin0
    have Vr8_10 := Vr8_9.keep Kq10 nin0
    have Vr9_10 := Vq9.keep Kq10 nin0
    have Er7_10 := Er7_9.keep Kq10
    have Er8_10 := Er8_9.keep Kq10
    have Er9_10 := Eq9.keep Kq10
    have g_r10 : n0 ≤ r10 := Nat.le_trans Z9 (Nat.le_of_eq g10.symm)
    have Z10 : n0 ≤ T10.heap.size := Nat.le_trans Z9 Kq10.1
    have eq10 : T10.heap = T10.heap := rfl
    refine Goes.via (B := T10.setTop (mkF m 89 #[.val (.int p1), .val (.int p2), .val (.int p3), .val (.int p4), .val (.int p5), .val (.int (2 : Int32)), .val (.int v6), .val (.int v7), .val (.int v8), .val (.int v9), .val (.int v10), .val (.ref r7), .val (.ref r8), .val (.ref r9), .unset] [(.ref r10)])) st10 ?_
    refine Goes.via (B := T10.setTop (mkF m 91 #[.val (.int p1), .val (.int p2), .val (.int p3), .val (.int p4), .val (.int p5), .val (.int (2 : Int32)), .val (.int v6), .val (.int v7), .val (.int v8), .val (.int v9), .val (.int v10), .val (.ref r7), .val (.ref r8), .val (.ref r9), .val (.ref r10)] [])) (fun t k => XS.astore X10.here hx rfl (hb hby at_89) rfl rfl (l' := #[.val (.int p1), .val (.int p2), .val (.int p3), .val (.int p4), .val (.int p5), .val (.int (2 : Int32)), .val (.int v6), .val (.int v7), .val (.int v8), .val (.int v9), .val (.int v10), .val (.ref r7), .val (.ref r8), .val (.ref r9), .val (.ref r10)]) rfl k) ?_
    refine Goes.via (B := T10.setTop (mkF m 93 #[.val (.int p1), .val (.int p2), .val (.int p3), .val (.int p4), .val (.int p5), .val (.int (2 : Int32)), .val (.int v6), .val (.int v7), .val (.int v8), .val (.int v9), .val (.int v10), .val (.ref r7), .val (.ref r8), .val (.ref r9), .val (.ref r10)] [(.ref r10)])) (fun t k => XS.aload X10.here hx rfl (hb hby at_91) rfl rfl k) ?_
    refine Goes.via (B := T10.setTop (mkF m 95 #[.val (.int p1), .val (.int p2), .val (.int p3), .val (.int p4), .val (.int p5), .val (.int (2 : Int32)), .val (.int v6), .val (.int v7), .val (.int v8), .val (.int v9), .val (.int v10), .val (.ref r7), .val (.ref r8), .val (.ref r9), .val (.ref r10)] [(.ref r7), (.ref r10)])) (fun t k => XS.aload X10.here hx rfl (hb hby at_93) rfl rfl k) ?_
    refine Goes.via (B := T10.setTop (mkF m 98 #[.val (.int p1), .val (.int p2), .val (.int p3), .val (.int p4), .val (.int p5), .val (.int (2 : Int32)), .val (.int v6), .val (.int v7), .val (.int v8), .val (.int v9), .val (.int v10), .val (.ref r7), .val (.ref r8), .val (.ref r9), .val (.ref r10)] [])) (fun t k => Jvm.RoadKit.acmp X10 hx rfl (x := (.ref r10)) (y := (.ref r7)) rfl rfl (pc0 := 95) (pc' := 98) rfl (hb hby at_95) rfl (decide_eq_false (fun q => (Ne.symm ne_r7_r10) (Value.ref.inj q))) (by decide) (by decide) k) ?_
    refine Goes.via (B := T10.setTop (mkF m 100 #[.val (.int p1), .val (.int p2), .val (.int p3), .val (.int p4), .val (.int p5), .val (.int (2 : Int32)), .val (.int v6), .val (.int v7), .val (.int v8), .val (.int v9), .val (.int v10), .val (.ref r7), .val (.ref r8), .val (.ref r9), .val (.ref r10)] [(.ref r10)])) (fun t k => XS.aload X10.here hx rfl (hb hby at_98) rfl rfl k) ?_
    refine Goes.via (B := T10.setTop (mkF m 102 #[.val (.int p1), .val (.int p2), .val (.int p3), .val (.int p4), .val (.int p5), .val (.int (2 : Int32)), .val (.int v6), .val (.int v7), .val (.int v8), .val (.int v9), .val (.int v10), .val (.ref r7), .val (.ref r8), .val (.ref r9), .val (.ref r10)] [(.ref r9), (.ref r10)])) (fun t k => XS.aload X10.here hx rfl (hb hby at_100) rfl rfl k) ?_
    refine Goes.via (B := T10.setTop (mkF m 104 #[.val (.int p1), .val (.int p2), .val (.int p3), .val (.int p4), .val (.int p5), .val (.int (2 : Int32)), .val (.int v6), .val (.int v7), .val (.int v8), .val (.int v9), .val (.int v10), .val (.ref r7), .val (.ref r8), .val (.ref r9), .val (.ref r10)] [(.int (2 : Int32)), (.ref r9), (.ref r10)])) (fun t k => XS.iload X10.here hx rfl (hb hby at_102) rfl k) ?_
    obtain ⟨_, _, ⟨T11, L11, kk11, nn11⟩, -, X11, ⟨Lc11, hQ11, l11, y11, z11⟩, st11⟩ := Jvm.LawKit.callS X10 hx (y := (⟨"com/example/highwater/highwater/embedded/KeysPrefixEndPinLaw", "same", "([B[BI)Z"⟩ : MethodName)) hown (mvT hZ (hw _ (List.mem_of_getElem? (i := 19) rfl))) (mvT hZ (hw _ (List.mem_of_getElem? (i := 20) rfl))) (mvT hZ (hw _ (List.mem_of_getElem? (i := 3) rfl))) (mvT hZ (hw _ (List.mem_of_getElem? (i := 21) rfl))) (by decide) (backOf (W := 0) (rm3_2 l Z a0 hw [] r10 r9 kq10 kq9 (nar .byte v6) (nar .byte v10) T10.heap n0 Z10 Vq10 Vr9_10) hZ (hw _ (List.mem_of_getElem? (i := 21) rfl)) (hw _ (List.mem_of_getElem? (i := 3) rfl)) (by decide) (by decide)) (g := (mkF m 104 #[.val (.int p1), .val (.int p2), .val (.int p3), .val (.int p4), .val (.int p5), .val (.int (2 : Int32)), .val (.int v6), .val (.int v7), .val (.int v8), .val (.int v9), .val (.int v10), .val (.ref r7), .val (.ref r8), .val (.ref r9), .val (.ref r10)] [(.int (2 : Int32)), (.ref r9), (.ref r10)])) rfl (by rw [hml]; rfl) (argsL := [(.ref r10), (.ref r9), (.int (2 : Int32))]) (rest := []) (lenOf pd___B_BI_Z rfl) rfl (by show 2 * 0 + _ ≤ _; exact Nat.le_of_eq rfl) (hb hby at_104) (fun _ _ => ⟨rfl, eq10, (by decide : 4 + 0 ≤ _), (by decide : 8 + 0 ≤ _)⟩)
    dsimp only [Pt.U, Pt.locs, Pt.cells, Pt.slots] at X11 l11 y11 z11 st11 hQ11
    subst l11 y11 z11
    obtain ⟨rfl, Nq11, hq11⟩ := hQ11
    have N11 := Fr.app N10 Nq11
    refine Goes.via (B := T11.setTop (mkF m 107 #[.val (.int p1), .val (.int p2), .val (.int p3), .val (.int p4), .val (.int p5), .val (.int (2 : Int32)), .val (.int v6), .val (.int v7), .val (.int v8), .val (.int v9), .val (.int v10), .val (.ref r7), .val (.ref r8), .val (.ref r9), .val (.ref r10)] [(.int (1 : Int32))])) st11 ?_
    refine Goes.via (B := T11.setTop (mkF m 110 #[.val (.int p1), .val (.int p2), .val (.int p3), .val (.int p4), .val (.int p5), .val (.int (2 : Int32)), .val (.int v6), .val (.int v7), .val (.int v8), .val (.int v9), .val (.int v10), .val (.ref r7), .val (.ref r8), .val (.ref r9), .val (.ref r10)] [])) (fun t k => XS.ifNo X11.here hx rfl (hb hby at_107) rfl ((if0 _ _).trans (feq (by decide : ¬ (1 : Int32) = (0 : Int32))).1) k) ?_
    refine Goes.via (B := T11.setTop (mkF m 112 #[.val (.int p1), .val (.int p2), .val (.int p3), .val (.int p4), .val (.int p5), .val (.int (2 : Int32)), .val (.int v6), .val (.int v7), .val (.int v8), .val (.int v9), .val (.int v10), .val (.ref r7), .val (.ref r8), .val (.ref r9), .val (.ref r10)] [(.ref r7)])) (fun t k => XS.aload X11.here hx rfl (hb hby at_110) rfl rfl k) ?_
    refine Goes.via (B := T11.setTop (mkF m 114 #[.val (.int p1), .val (.int p2), .val (.int p3), .val (.int p4), .val (.int p5), .val (.int (2 : Int32)), .val (.int v6), .val (.int v7), .val (.int v8), .val (.int v9), .val (.int v10), .val (.ref r7), .val (.ref r8), .val (.ref r9), .val (.ref r10)] [(.ref r8), (.ref r7)])) (fun t k => XS.aload X11.here hx rfl (hb hby at_112) rfl rfl k) ?_
    refine Goes.via (B := T11.setTop (mkF m 116 #[.val (.int p1), .val (.int p2), .val (.int p3), .val (.int p4), .val (.int p5), .val (.int (2 : Int32)), .val (.int v6), .val (.int v7), .val (.int v8), .val (.int v9), .val (.int v10), .val (.ref r7), .val (.ref r8), .val (.ref r9), .val (.ref r10)] [(.int (2 : Int32)), (.ref r8), (.ref r7)])) (fun t k => XS.iload X11.here hx rfl (hb hby at_114) rfl k) ?_
    obtain ⟨_, _, ⟨T12, L12, kk12, nn12⟩, -, X12, ⟨Lc12, hQ12, l12, y12, z12⟩, st12⟩ := Jvm.LawKit.callS X11 hx (y := (⟨"com/example/highwater/highwater/embedded/KeysPrefixEndPinLaw", "same", "([B[BI)Z"⟩ : MethodName)) hown (mvT hZ (hw _ (List.mem_of_getElem? (i := 19) rfl))) (mvT hZ (hw _ (List.mem_of_getElem? (i := 20) rfl))) (mvT hZ (hw _ (List.mem_of_getElem? (i := 3) rfl))) (mvT hZ (hw _ (List.mem_of_getElem? (i := 21) rfl))) (by decide) (backOf (W := 0) (rm3_2 l Z a0 hw [] r7 r8 kq7 kq8 (nar .byte v6) (nar .byte v9) T10.heap n0 Z10 Vr7_10 Vr8_10) hZ (hw _ (List.mem_of_getElem? (i := 21) rfl)) (hw _ (List.mem_of_getElem? (i := 3) rfl)) (by decide) (by decide)) (g := (mkF m 116 #[.val (.int p1), .val (.int p2), .val (.int p3), .val (.int p4), .val (.int p5), .val (.int (2 : Int32)), .val (.int v6), .val (.int v7), .val (.int v8), .val (.int v9), .val (.int v10), .val (.ref r7), .val (.ref r8), .val (.ref r9), .val (.ref r10)] [(.int (2 : Int32)), (.ref r8), (.ref r7)])) rfl (by rw [hml]; rfl) (argsL := [(.ref r7), (.ref r8), (.int (2 : Int32))]) (rest := []) (lenOf pd___B_BI_Z rfl) rfl (by show 2 * 0 + _ ≤ _; exact Nat.le_of_eq rfl) (hb hby at_116) (fun _ _ => ⟨rfl, hq11, (by decide : 4 + 0 ≤ _), (by decide : 8 + 0 ≤ _)⟩)
    dsimp only [Pt.U, Pt.locs, Pt.cells, Pt.slots] at X12 l12 y12 z12 st12 hQ12
    subst l12 y12 z12
    obtain ⟨rfl, Nq12, hq12⟩ := hQ12
    have N12 := Fr.app N11 Nq12
    refine Goes.via (B := T12.setTop (mkF m 119 #[.val (.int p1), .val (.int p2), .val (.int p3), .val (.int p4), .val (.int p5), .val (.int (2 : Int32)), .val (.int v6), .val (.int v7), .val (.int v8), .val (.int v9), .val (.int v10), .val (.ref r7), .val (.ref r8), .val (.ref r9), .val (.ref r10)] [(.int (1 : Int32))])) st12 ?_
    refine Goes.via (B := T12.setTop (mkF m 122 #[.val (.int p1), .val (.int p2), .val (.int p3), .val (.int p4), .val (.int p5), .val (.int (2 : Int32)), .val (.int v6), .val (.int v7), .val (.int v8), .val (.int v9), .val (.int v10), .val (.ref r7), .val (.ref r8), .val (.ref r9), .val (.ref r10)] [])) (fun t k => XS.ifNo X12.here hx rfl (hb hby at_119) rfl ((if0 _ _).trans (feq (by decide : ¬ (1 : Int32) = (0 : Int32))).1) k) ?_
    refine Goes.via (B := T12.setTop (mkF m 123 #[.val (.int p1), .val (.int p2), .val (.int p3), .val (.int p4), .val (.int p5), .val (.int (2 : Int32)), .val (.int v6), .val (.int v7), .val (.int v8), .val (.int v9), .val (.int v10), .val (.ref r7), .val (.ref r8), .val (.ref r9), .val (.ref r10)] [(.int (1 : Int32))])) (fun t k => XS.iconst X12.here hx rfl (hb hby at_122) k) ?_
    refine Goes.via (B := T12.setTop (mkF m 127 #[.val (.int p1), .val (.int p2), .val (.int p3), .val (.int p4), .val (.int p5), .val (.int (2 : Int32)), .val (.int v6), .val (.int v7), .val (.int v8), .val (.int v9), .val (.int v10), .val (.ref r7), .val (.ref r8), .val (.ref r9), .val (.ref r10)] [(.int (1 : Int32))])) (fun t k => XS.goto X12.here hx rfl (pc0 := 123) (pc' := 127) rfl (hb hby at_123) (by decide) (by decide) k) ?_
    exact own_out X12 (v := some (.int (1 : Int32))) (fun h => by rw [Bd.returns] at h; cases h) Bd.notSynchronized (fun fs hr => retOut X12 hx Bd.returns rfl (Or.inl ⟨rfl, Or.inr (Or.inl rfl), _, rfl⟩) (hb hby at_127) hr) ⟨rfl, N12⟩ (by decide) (by decide)
  · refine Goes.via (B := s₁.setTop (mkF m 41 #[.val (.int p1), .val (.int p2), .val (.int p3), .val (.int p4), .val (.int p5), .val (.int (3 : Int32)), .val (.int v6), .val (.int v7), .val (.int v8), .val (.int v9), .val (.int v10), .unset, .unset, .unset, .unset] [(.int (3 : Int32))])) (fun t k => XS.iload X0.here hx rfl (hb hby at_39) rfl k) ?_
    refine Goes.via (B := s₁.setTop (mkF m 43 #[.val (.int p1), .val (.int p2), .val (.int p3), .val (.int p4), .val (.int p5), .val (.int (3 : Int32)), .val (.int v6), .val (.int v7), .val (.int v8), .val (.int v9), .val (.int v10), .unset, .unset, .unset, .unset] [(.int v6), (.int (3 : Int32))])) (fun t k => XS.iload X0.here hx rfl (hb hby at_41) rfl k) ?_
    refine Goes.via (B := s₁.setTop (mkF m 45 #[.val (.int p1), .val (.int p2), .val (.int p3), .val (.int p4), .val (.int p5), .val (.int (3 : Int32)), .val (.int v6), .val (.int v7), .val (.int v8), .val (.int v9), .val (.int v10), .unset, .unset, .unset, .unset] [(.int v7), (.int v6), (.int (3 : Int32))])) (fun t k => XS.iload X0.here hx rfl (hb hby at_43) rfl k) ?_
    refine Goes.via (B := s₁.setTop (mkF m 47 #[.val (.int p1), .val (.int p2), .val (.int p3), .val (.int p4), .val (.int p5), .val (.int (3 : Int32)), .val (.int v6), .val (.int v7), .val (.int v8), .val (.int v9), .val (.int v10), .unset, .unset, .unset, .unset] [(.int v8), (.int v7), (.int v6), (.int (3 : Int32))])) (fun t k => XS.iload X0.here hx rfl (hb hby at_45) rfl k) ?_
    refine Goes.via (B := s₁.setTop (mkF m 49 #[.val (.int p1), .val (.int p2), .val (.int p3), .val (.int p4), .val (.int p5), .val (.int (3 : Int32)), .val (.int v6), .val (.int v7), .val (.int v8), .val (.int v9), .val (.int v10), .unset, .unset, .unset, .unset] [(.int v9), (.int v8), (.int v7), (.int v6), (.int (3 : Int32))])) (fun t k => XS.iload X0.here hx rfl (hb hby at_47) rfl k) ?_
    obtain ⟨_, _, ⟨T13, L13, kk13, nn13⟩, -, X13, ⟨Lc13, hQ13, l13, y13, z13⟩, st13⟩ := Jvm.LawKit.callS X0 hx (y := (⟨"com/example/highwater/highwater/embedded/KeysPrefixEndPinLaw", "make", "(IBBBB)[B"⟩ : MethodName)) hown (mvT hZ (hw _ (List.mem_of_getElem? (i := 1) rfl))) (mvT hZ (hw _ (List.mem_of_getElem? (i := 2) rfl))) (mvT hZ (hw _ (List.mem_of_getElem? (i := 3) rfl))) (mvT hZ (hw _ (List.mem_of_getElem? (i := 4) rfl))) (by decide) (backOf (W := 0) (rm1_3 l Z a0 hw [] v6 v7 v8 v9 h0 n0 Z0 ) hZ (hw _ (List.mem_of_getElem? (i := 4) rfl)) (hw _ (List.mem_of_getElem? (i := 3) rfl)) (by decide) (by decide)) (g := (mkF m 49 #[.val (.int p1), .val (.int p2), .val (.int p3), .val (.int p4), .val (.int p5), .val (.int (3 : Int32)), .val (.int v6), .val (.int v7), .val (.int v8), .val (.int v9), .val (.int v10), .unset, .unset, .unset, .unset] [(.int v9), (.int v8), (.int v7), (.int v6), (.int (3 : Int32))])) rfl (by rw [hml]; rfl) (argsL := [(.int (3 : Int32)), (.int v6), (.int v7), (.int v8), (.int v9)]) (rest := []) (lenOf pd__IBBBB__B rfl) rfl (by show 2 * 0 + _ ≤ _; exact Nat.le_of_eq rfl) (hb hby at_49) (fun _ _ => ⟨rfl, e0, (by decide : 0 + 1 ≤ _), (by decide : 0 + 3 ≤ _)⟩)
    dsimp only [Pt.U, Pt.locs, Pt.cells, Pt.slots] at X13 l13 y13 z13 st13 hQ13
    subst l13 y13 z13
    obtain ⟨rfl, Nq13, Kq13, Eq13, ⟨kq13, Vq13⟩⟩ := hQ13
    have N13 := Fr.app N0 Nq13
    obtain ⟨r13, g13⟩ : ∃ z, z = h0.size := ⟨_, rfl⟩
    rw [← g13] at Vq13 st13 Eq13
    have g_r13 : n0 ≤ r13 := Nat.le_trans Z0 (Nat.le_of_eq g13.symm)
    have Z13 : n0 ≤ T13.heap.size := Nat.le_trans Z0 Kq13.1
    have eq13 : T13.heap = T13.heap := rfl
    refine Goes.via (B := T13.setTop (mkF m 52 #[.val (.int p1), .val (.int p2), .val (.int p3), .val (.int p4), .val (.int p5), .val (.int (3 : Int32)), .val (.int v6), .val (.int v7), .val (.int v8), .val (.int v9), .val (.int v10), .unset, .unset, .unset, .unset] [(.ref r13)])) st13 ?_
    refine Goes.via (B := T13.setTop (mkF m 54 #[.val (.int p1), .val (.int p2), .val (.int p3), .val (.int p4), .val (.int p5), .val (.int (3 : Int32)), .val (.int v6), .val (.int v7), .val (.int v8), .val (.int v9), .val (.int v10), .val (.ref r13), .unset, .unset, .unset] [])) (fun t k => XS.astore X13.here hx rfl (hb hby at_52) rfl rfl (l' := #[.val (.int p1), .val (.int p2), .val (.int p3), .val (.int p4), .val (.int p5), .val (.int (3 : Int32)), .val (.int v6), .val (.int v7), .val (.int v8), .val (.int v9), .val (.int v10), .val (.ref r13), .unset, .unset, .unset]) rfl k) ?_
    refine Goes.via (B := T13.setTop (mkF m 56 #[.val (.int p1), .val (.int p2), .val (.int p3), .val (.int p4), .val (.int p5), .val (.int (3 : Int32)), .val (.int v6), .val (.int v7), .val (.int v8), .val (.int v9), .val (.int v10), .val (.ref r13), .unset, .unset, .unset] [(.int (3 : Int32))])) (fun t k => XS.iload X13.here hx rfl (hb hby at_54) rfl k) ?_
    refine Goes.via (B := T13.setTop (mkF m 58 #[.val (.int p1), .val (.int p2), .val (.int p3), .val (.int p4), .val (.int p5), .val (.int (3 : Int32)), .val (.int v6), .val (.int v7), .val (.int v8), .val (.int v9), .val (.int v10), .val (.ref r13), .unset, .unset, .unset] [(.int v6), (.int (3 : Int32))])) (fun t k => XS.iload X13.here hx rfl (hb hby at_56) rfl k) ?_
    refine Goes.via (B := T13.setTop (mkF m 60 #[.val (.int p1), .val (.int p2), .val (.int p3), .val (.int p4), .val (.int p5), .val (.int (3 : Int32)), .val (.int v6), .val (.int v7), .val (.int v8), .val (.int v9), .val (.int v10), .val (.ref r13), .unset, .unset, .unset] [(.int v7), (.int v6), (.int (3 : Int32))])) (fun t k => XS.iload X13.here hx rfl (hb hby at_58) rfl k) ?_
    refine Goes.via (B := T13.setTop (mkF m 62 #[.val (.int p1), .val (.int p2), .val (.int p3), .val (.int p4), .val (.int p5), .val (.int (3 : Int32)), .val (.int v6), .val (.int v7), .val (.int v8), .val (.int v9), .val (.int v10), .val (.ref r13), .unset, .unset, .unset] [(.int v8), (.int v7), (.int v6), (.int (3 : Int32))])) (fun t k => XS.iload X13.here hx rfl (hb hby at_60) rfl k) ?_
    refine Goes.via (B := T13.setTop (mkF m 64 #[.val (.int p1), .val (.int p2), .val (.int p3), .val (.int p4), .val (.int p5), .val (.int (3 : Int32)), .val (.int v6), .val (.int v7), .val (.int v8), .val (.int v9), .val (.int v10), .val (.ref r13), .unset, .unset, .unset] [(.int v9), (.int v8), (.int v7), (.int v6), (.int (3 : Int32))])) (fun t k => XS.iload X13.here hx rfl (hb hby at_62) rfl k) ?_
    obtain ⟨_, _, ⟨T14, L14, kk14, nn14⟩, -, X14, ⟨Lc14, hQ14, l14, y14, z14⟩, st14⟩ := Jvm.LawKit.callS X13 hx (y := (⟨"com/example/highwater/highwater/embedded/KeysPrefixEndPinLaw", "make", "(IBBBB)[B"⟩ : MethodName)) hown (mvT hZ (hw _ (List.mem_of_getElem? (i := 1) rfl))) (mvT hZ (hw _ (List.mem_of_getElem? (i := 2) rfl))) (mvT hZ (hw _ (List.mem_of_getElem? (i := 3) rfl))) (mvT hZ (hw _ (List.mem_of_getElem? (i := 4) rfl))) (by decide) (backOf (W := 0) (rm1_3 l Z a0 hw [] v6 v7 v8 v9 T13.heap n0 Z13 ) hZ (hw _ (List.mem_of_getElem? (i := 4) rfl)) (hw _ (List.mem_of_getElem? (i := 3) rfl)) (by decide) (by decide)) (g := (mkF m 64 #[.val (.int p1), .val (.int p2), .val (.int p3), .val (.int p4), .val (.int p5), .val (.int (3 : Int32)), .val (.int v6), .val (.int v7), .val (.int v8), .val (.int v9), .val (.int v10), .val (.ref r13), .unset, .unset, .unset] [(.int v9), (.int v8), (.int v7), (.int v6), (.int (3 : Int32))])) rfl (by rw [hml]; rfl) (argsL := [(.int (3 : Int32)), (.int v6), (.int v7), (.int v8), (.int v9)]) (rest := []) (lenOf pd__IBBBB__B rfl) rfl (by show 2 * 0 + _ ≤ _; exact Nat.le_of_eq rfl) (hb hby at_64) (fun _ _ => ⟨rfl, eq13, (by decide : 1 + 1 ≤ _), (by decide : 3 + 3 ≤ _)⟩)
    dsimp only [Pt.U, Pt.locs, Pt.cells, Pt.slots] at X14 l14 y14 z14 st14 hQ14
    subst l14 y14 z14
    obtain ⟨rfl, Nq14, Kq14, Eq14, ⟨kq14, Vq14⟩⟩ := hQ14
    have N14 := Fr.app N13 Nq14
    obtain ⟨r14, g14⟩ : ∃ z, z = T13.heap.size := ⟨_, rfl⟩
    rw [← g14] at Vq14 st14 Eq14
    have ne_r13_r14 : r13 ≠ r14 := Nat.ne_of_lt (Nat.lt_of_lt_of_le Vq13.lt (Nat.le_of_eq g14.symm))
    have Vr13_14 := Vq13.keep Kq14 nin0
    have Er13_14 := Eq13.keep Kq14
    have g_r14 : n0 ≤ r14 := Nat.le_trans Z13 (Nat.le_of_eq g14.symm)
    have Z14 : n0 ≤ T14.heap.size := Nat.le_trans Z13 Kq14.1
    have eq14 : T14.heap = T14.heap := rfl
    refine Goes.via (B := T14.setTop (mkF m 67 #[.val (.int p1), .val (.int p2), .val (.int p3), .val (.int p4), .val (.int p5), .val (.int (3 : Int32)), .val (.int v6), .val (.int v7), .val (.int v8), .val (.int v9), .val (.int v10), .val (.ref r13), .unset, .unset, .unset] [(.ref r14)])) st14 ?_
    refine Goes.via (B := T14.setTop (mkF m 69 #[.val (.int p1), .val (.int p2), .val (.int p3), .val (.int p4), .val (.int p5), .val (.int (3 : Int32)), .val (.int v6), .val (.int v7), .val (.int v8), .val (.int v9), .val (.int v10), .val (.ref r13), .val (.ref r14), .unset, .unset] [])) (fun t k => XS.astore X14.here hx rfl (hb hby at_67) rfl rfl (l' := #[.val (.int p1), .val (.int p2), .val (.int p3), .val (.int p4), .val (.int p5), .val (.int (3 : Int32)), .val (.int v6), .val (.int v7), .val (.int v8), .val (.int v9), .val (.int v10), .val (.ref r13), .val (.ref r14), .unset, .unset]) rfl k) ?_
    refine Goes.via (B := T14.setTop (mkF m 71 #[.val (.int p1), .val (.int p2), .val (.int p3), .val (.int p4), .val (.int p5), .val (.int (3 : Int32)), .val (.int v6), .val (.int v7), .val (.int v8), .val (.int v9), .val (.int v10), .val (.ref r13), .val (.ref r14), .unset, .unset] [(.int (3 : Int32))])) (fun t k => XS.iload X14.here hx rfl (hb hby at_69) rfl k) ?_
    refine Goes.via (B := T14.setTop (mkF m 73 #[.val (.int p1), .val (.int p2), .val (.int p3), .val (.int p4), .val (.int p5), .val (.int (3 : Int32)), .val (.int v6), .val (.int v7), .val (.int v8), .val (.int v9), .val (.int v10), .val (.ref r13), .val (.ref r14), .unset, .unset] [(.int v6), (.int (3 : Int32))])) (fun t k => XS.iload X14.here hx rfl (hb hby at_71) rfl k) ?_
    refine Goes.via (B := T14.setTop (mkF m 75 #[.val (.int p1), .val (.int p2), .val (.int p3), .val (.int p4), .val (.int p5), .val (.int (3 : Int32)), .val (.int v6), .val (.int v7), .val (.int v8), .val (.int v9), .val (.int v10), .val (.ref r13), .val (.ref r14), .unset, .unset] [(.int v7), (.int v6), (.int (3 : Int32))])) (fun t k => XS.iload X14.here hx rfl (hb hby at_73) rfl k) ?_
    refine Goes.via (B := T14.setTop (mkF m 77 #[.val (.int p1), .val (.int p2), .val (.int p3), .val (.int p4), .val (.int p5), .val (.int (3 : Int32)), .val (.int v6), .val (.int v7), .val (.int v8), .val (.int v9), .val (.int v10), .val (.ref r13), .val (.ref r14), .unset, .unset] [(.int v8), (.int v7), (.int v6), (.int (3 : Int32))])) (fun t k => XS.iload X14.here hx rfl (hb hby at_75) rfl k) ?_
    refine Goes.via (B := T14.setTop (mkF m 79 #[.val (.int p1), .val (.int p2), .val (.int p3), .val (.int p4), .val (.int p5), .val (.int (3 : Int32)), .val (.int v6), .val (.int v7), .val (.int v8), .val (.int v9), .val (.int v10), .val (.ref r13), .val (.ref r14), .unset, .unset] [(.int v10), (.int v8), (.int v7), (.int v6), (.int (3 : Int32))])) (fun t k => XS.iload X14.here hx rfl (hb hby at_77) rfl k) ?_
    obtain ⟨_, _, ⟨T15, L15, kk15, nn15⟩, -, X15, ⟨Lc15, hQ15, l15, y15, z15⟩, st15⟩ := Jvm.LawKit.callS X14 hx (y := (⟨"com/example/highwater/highwater/embedded/KeysPrefixEndPinLaw", "make", "(IBBBB)[B"⟩ : MethodName)) hown (mvT hZ (hw _ (List.mem_of_getElem? (i := 1) rfl))) (mvT hZ (hw _ (List.mem_of_getElem? (i := 2) rfl))) (mvT hZ (hw _ (List.mem_of_getElem? (i := 3) rfl))) (mvT hZ (hw _ (List.mem_of_getElem? (i := 4) rfl))) (by decide) (backOf (W := 0) (rm1_3 l Z a0 hw [] v6 v7 v8 v10 T14.heap n0 Z14 ) hZ (hw _ (List.mem_of_getElem? (i := 4) rfl)) (hw _ (List.mem_of_getElem? (i := 3) rfl)) (by decide) (by decide)) (g := (mkF m 79 #[.val (.int p1), .val (.int p2), .val (.int p3), .val (.int p4), .val (.int p5), .val (.int (3 : Int32)), .val (.int v6), .val (.int v7), .val (.int v8), .val (.int v9), .val (.int v10), .val (.ref r13), .val (.ref r14), .unset, .unset] [(.int v10), (.int v8), (.int v7), (.int v6), (.int (3 : Int32))])) rfl (by rw [hml]; rfl) (argsL := [(.int (3 : Int32)), (.int v6), (.int v7), (.int v8), (.int v10)]) (rest := []) (lenOf pd__IBBBB__B rfl) rfl (by show 2 * 0 + _ ≤ _; exact Nat.le_of_eq rfl) (hb hby at_79) (fun _ _ => ⟨rfl, eq14, (by decide : 2 + 1 ≤ _), (by decide : 6 + 3 ≤ _)⟩)
    dsimp only [Pt.U, Pt.locs, Pt.cells, Pt.slots] at X15 l15 y15 z15 st15 hQ15
    subst l15 y15 z15
    obtain ⟨rfl, Nq15, Kq15, Eq15, ⟨kq15, Vq15⟩⟩ := hQ15
    have N15 := Fr.app N14 Nq15
    obtain ⟨r15, g15⟩ : ∃ z, z = T14.heap.size := ⟨_, rfl⟩
    rw [← g15] at Vq15 st15 Eq15
    have ne_r13_r15 : r13 ≠ r15 := Nat.ne_of_lt (Nat.lt_of_lt_of_le Vr13_14.lt (Nat.le_of_eq g15.symm))
    have ne_r14_r15 : r14 ≠ r15 := Nat.ne_of_lt (Nat.lt_of_lt_of_le Vq14.lt (Nat.le_of_eq g15.symm))
    have Vr13_15 := Vr13_14.keep Kq15 nin0
    have Vr14_15 := Vq14.keep Kq15 nin0
    have Er13_15 := Er13_14.keep Kq15
    have Er14_15 := Eq14.keep Kq15
    have g_r15 : n0 ≤ r15 := Nat.le_trans Z14 (Nat.le_of_eq g15.symm)
    have Z15 : n0 ≤ T15.heap.size := Nat.le_trans Z14 Kq15.1
    have eq15 : T15.heap = T15.heap := rfl
    refine Goes.via (B := T15.setTop (mkF m 82 #[.val (.int p1), .val (.int p2), .val (.int p3), .val (.int p4), .val (.int p5), .val (.int (3 : Int32)), .val (.int v6), .val (.int v7), .val (.int v8), .val (.int v9), .val (.int v10), .val (.ref r13), .val (.ref r14), .unset, .unset] [(.ref r15)])) st15 ?_
    refine Goes.via (B := T15.setTop (mkF m 84 #[.val (.int p1), .val (.int p2), .val (.int p3), .val (.int p4), .val (.int p5), .val (.int (3 : Int32)), .val (.int v6), .val (.int v7), .val (.int v8), .val (.int v9), .val (.int v10), .val (.ref r13), .val (.ref r14), .val (.ref r15), .unset] [])) (fun t k => XS.astore X15.here hx rfl (hb hby at_82) rfl rfl (l' := #[.val (.int p1), .val (.int p2), .val (.int p3), .val (.int p4), .val (.int p5), .val (.int (3 : Int32)), .val (.int v6), .val (.int v7), .val (.int v8), .val (.int v9), .val (.int v10), .val (.ref r13), .val (.ref r14), .val (.ref r15), .unset]) rfl k) ?_
    refine Goes.via (B := T15.setTop (mkF m 86 #[.val (.int p1), .val (.int p2), .val (.int p3), .val (.int p4), .val (.int p5), .val (.int (3 : Int32)), .val (.int v6), .val (.int v7), .val (.int v8), .val (.int v9), .val (.int v10), .val (.ref r13), .val (.ref r14), .val (.ref r15), .unset] [(.ref r13)])) (fun t k => XS.aload X15.here hx rfl (hb hby at_84) rfl rfl k) ?_
    obtain ⟨_, _, ⟨T16, L16, kk16, nn16⟩, -, X16, ⟨Lc16, hQ16, l16, y16, z16⟩, st16⟩ := Jvm.LawKit.callS X15 hx (y := (⟨"com/example/highwater/highwater/embedded/Keys", "prefixEnd", "([B)[B"⟩ : MethodName)) hown (mvT hZ (hw _ (List.mem_of_getElem? (i := 6) rfl))) (mvT hZ (hw _ (List.mem_of_getElem? (i := 7) rfl))) (mvT hZ (hw _ (List.mem_of_getElem? (i := 8) rfl))) (mvT hZ (hw _ (List.mem_of_getElem? (i := 9) rfl))) (by decide) (backOf (W := 0) (rm2_3 l Z a0 hw [] r13 kq13 (nar .byte v6) (nar .byte v7) (nar .byte v9) T15.heap n0 Z15 Vr13_15 Er13_15) hZ (hw _ (List.mem_of_getElem? (i := 9) rfl)) (hw _ (List.mem_of_getElem? (i := 8) rfl)) (by decide) (by decide)) (g := (mkF m 86 #[.val (.int p1), .val (.int p2), .val (.int p3), .val (.int p4), .val (.int p5), .val (.int (3 : Int32)), .val (.int v6), .val (.int v7), .val (.int v8), .val (.int v9), .val (.int v10), .val (.ref r13), .val (.ref r14), .val (.ref r15), .unset] [(.ref r13)])) rfl (by rw [hml]; rfl) (argsL := [(.ref r13)]) (rest := []) (lenOf pd___B__B rfl) rfl (by show 2 * 0 + _ ≤ _; exact Nat.le_of_eq rfl) (hb hby at_86) (fun _ _ => ⟨rfl, eq15, (by decide : 3 + 1 ≤ _), (by decide : 9 + 3 ≤ _)⟩)
    dsimp only [Pt.U, Pt.locs, Pt.cells, Pt.slots] at X16 l16 y16 z16 st16 hQ16
    subst l16 y16 z16
    obtain ⟨rfl, Nq16, Kq16, ⟨kq16, Vq16⟩⟩ := hQ16
    have N16 := Fr.app N15 Nq16
    rw [own_nv hv9, hv10] at Vq16
    obtain ⟨r16, g16⟩ : ∃ z, z = T15.heap.size := ⟨_, rfl⟩
    rw [← g16] at Vq16 st16
    have ne_r13_r16 : r13 ≠ r16 := Nat.ne_of_lt (Nat.lt_of_lt_of_le Vr13_15.lt (Nat.le_of_eq g16.symm))
    have ne_r14_r16 : r14 ≠ r16 := Nat.ne_of_lt (Nat.lt_of_lt_of_le Vr14_15.lt (Nat.le_of_eq g16.symm))
    have ne_r15_r16 : r15 ≠ r16 := Nat.ne_of_lt (Nat.lt_of_lt_of_le Vq15.lt (Nat.le_of_eq g16.symm))
    have Vr13_16 := Vr13_15.keep Kq16 nin0
    have Vr14_16 := Vr14_15.keep Kq16 nin0
    have Vr15_16 := Vq15.keep Kq16 nin0
    have Er13_16 := Er13_15.keep Kq16
    have Er14_16 := Er14_15.keep Kq16
    have Er15_16 := Eq15.keep Kq16
    have g_r16 : n0 ≤ r16 := Nat.le_trans Z15 (Nat.le_of_eq g16.symm)
    have Z16 : n0 ≤ T16.heap.size := Nat.le_trans Z15 Kq16.1
    have eq16 : T16.heap = T16.heap := rfl
    refine Goes.via (B := T16.setTop (mkF m 89 #[.val (.int p1), .val (.int p2), .val (.int p3), .val (.int p4), .val (.int p5), .val (.int (3 : Int32)), .val (.int v6), .val (.int v7), .val (.int v8), .val (.int v9), .val (.int v10), .val (.ref r13), .val (.ref r14), .val (.ref r15), .unset] [(.ref r16)])) st16 ?_
    refine Goes.via (B := T16.setTop (mkF m 91 #[.val (.int p1), .val (.int p2), .val (.int p3), .val (.int p4), .val (.int p5), .val (.int (3 : Int32)), .val (.int v6), .val (.int v7), .val (.int v8), .val (.int v9), .val (.int v10), .val (.ref r13), .val (.ref r14), .val (.ref r15), .val (.ref r16)] [])) (fun t k => XS.astore X16.here hx rfl (hb hby at_89) rfl rfl (l' := #[.val (.int p1), .val (.int p2), .val (.int p3), .val (.int p4), .val (.int p5), .val (.int (3 : Int32)), .val (.int v6), .val (.int v7), .val (.int v8), .val (.int v9), .val (.int v10), .val (.ref r13), .val (.ref r14), .val (.ref r15), .val (.ref r16)]) rfl k) ?_
    refine Goes.via (B := T16.setTop (mkF m 93 #[.val (.int p1), .val (.int p2), .val (.int p3), .val (.int p4), .val (.int p5), .val (.int (3 : Int32)), .val (.int v6), .val (.int v7), .val (.int v8), .val (.int v9), .val (.int v10), .val (.ref r13), .val (.ref r14), .val (.ref r15), .val (.ref r16)] [(.ref r16)])) (fun t k => XS.aload X16.here hx rfl (hb hby at_91) rfl rfl k) ?_
    refine Goes.via (B := T16.setTop (mkF m 95 #[.val (.int p1), .val (.int p2), .val (.int p3), .val (.int p4), .val (.int p5), .val (.int (3 : Int32)), .val (.int v6), .val (.int v7), .val (.int v8), .val (.int v9), .val (.int v10), .val (.ref r13), .val (.ref r14), .val (.ref r15), .val (.ref r16)] [(.ref r13), (.ref r16)])) (fun t k => XS.aload X16.here hx rfl (hb hby at_93) rfl rfl k) ?_
    refine Goes.via (B := T16.setTop (mkF m 98 #[.val (.int p1), .val (.int p2), .val (.int p3), .val (.int p4), .val (.int p5), .val (.int (3 : Int32)), .val (.int v6), .val (.int v7), .val (.int v8), .val (.int v9), .val (.int v10), .val (.ref r13), .val (.ref r14), .val (.ref r15), .val (.ref r16)] [])) (fun t k => Jvm.RoadKit.acmp X16 hx rfl (x := (.ref r16)) (y := (.ref r13)) rfl rfl (pc0 := 95) (pc' := 98) rfl (hb hby at_95) rfl (decide_eq_false (fun q => (Ne.symm ne_r13_r16) (Value.ref.inj q))) (by decide) (by decide) k) ?_
    refine Goes.via (B := T16.setTop (mkF m 100 #[.val (.int p1), .val (.int p2), .val (.int p3), .val (.int p4), .val (.int p5), .val (.int (3 : Int32)), .val (.int v6), .val (.int v7), .val (.int v8), .val (.int v9), .val (.int v10), .val (.ref r13), .val (.ref r14), .val (.ref r15), .val (.ref r16)] [(.ref r16)])) (fun t k => XS.aload X16.here hx rfl (hb hby at_98) rfl rfl k) ?_
    refine Goes.via (B := T16.setTop (mkF m 102 #[.val (.int p1), .val (.int p2), .val (.int p3), .val (.int p4), .val (.int p5), .val (.int (3 : Int32)), .val (.int v6), .val (.int v7), .val (.int v8), .val (.int v9), .val (.int v10), .val (.ref r13), .val (.ref r14), .val (.ref r15), .val (.ref r16)] [(.ref r15), (.ref r16)])) (fun t k => XS.aload X16.here hx rfl (hb hby at_100) rfl rfl k) ?_
    refine Goes.via (B := T16.setTop (mkF m 104 #[.val (.int p1), .val (.int p2), .val (.int p3), .val (.int p4), .val (.int p5), .val (.int (3 : Int32)), .val (.int v6), .val (.int v7), .val (.int v8), .val (.int v9), .val (.int v10), .val (.ref r13), .val (.ref r14), .val (.ref r15), .val (.ref r16)] [(.int (3 : Int32)), (.ref r15), (.ref r16)])) (fun t k => XS.iload X16.here hx rfl (hb hby at_102) rfl k) ?_
    obtain ⟨_, _, ⟨T17, L17, kk17, nn17⟩, -, X17, ⟨Lc17, hQ17, l17, y17, z17⟩, st17⟩ := Jvm.LawKit.callS X16 hx (y := (⟨"com/example/highwater/highwater/embedded/KeysPrefixEndPinLaw", "same", "([B[BI)Z"⟩ : MethodName)) hown (mvT hZ (hw _ (List.mem_of_getElem? (i := 19) rfl))) (mvT hZ (hw _ (List.mem_of_getElem? (i := 20) rfl))) (mvT hZ (hw _ (List.mem_of_getElem? (i := 3) rfl))) (mvT hZ (hw _ (List.mem_of_getElem? (i := 21) rfl))) (by decide) (backOf (W := 0) (rm3_3 l Z a0 hw [] r16 r15 kq16 kq15 (nar .byte v6) (nar .byte v7) (nar .byte v10) T16.heap n0 Z16 Vq16 Vr15_16) hZ (hw _ (List.mem_of_getElem? (i := 21) rfl)) (hw _ (List.mem_of_getElem? (i := 3) rfl)) (by decide) (by decide)) (g := (mkF m 104 #[.val (.int p1), .val (.int p2), .val (.int p3), .val (.int p4), .val (.int p5), .val (.int (3 : Int32)), .val (.int v6), .val (.int v7), .val (.int v8), .val (.int v9), .val (.int v10), .val (.ref r13), .val (.ref r14), .val (.ref r15), .val (.ref r16)] [(.int (3 : Int32)), (.ref r15), (.ref r16)])) rfl (by rw [hml]; rfl) (argsL := [(.ref r16), (.ref r15), (.int (3 : Int32))]) (rest := []) (lenOf pd___B_BI_Z rfl) rfl (by show 2 * 0 + _ ≤ _; exact Nat.le_of_eq rfl) (hb hby at_104) (fun _ _ => ⟨rfl, eq16, (by decide : 4 + 0 ≤ _), (by decide : 12 + 0 ≤ _)⟩)
    dsimp only [Pt.U, Pt.locs, Pt.cells, Pt.slots] at X17 l17 y17 z17 st17 hQ17
    subst l17 y17 z17
    obtain ⟨rfl, Nq17, hq17⟩ := hQ17
    have N17 := Fr.app N16 Nq17
    refine Goes.via (B := T17.setTop (mkF m 107 #[.val (.int p1), .val (.int p2), .val (.int p3), .val (.int p4), .val (.int p5), .val (.int (3 : Int32)), .val (.int v6), .val (.int v7), .val (.int v8), .val (.int v9), .val (.int v10), .val (.ref r13), .val (.ref r14), .val (.ref r15), .val (.ref r16)] [(.int (1 : Int32))])) st17 ?_
    refine Goes.via (B := T17.setTop (mkF m 110 #[.val (.int p1), .val (.int p2), .val (.int p3), .val (.int p4), .val (.int p5), .val (.int (3 : Int32)), .val (.int v6), .val (.int v7), .val (.int v8), .val (.int v9), .val (.int v10), .val (.ref r13), .val (.ref r14), .val (.ref r15), .val (.ref r16)] [])) (fun t k => XS.ifNo X17.here hx rfl (hb hby at_107) rfl ((if0 _ _).trans (feq (by decide : ¬ (1 : Int32) = (0 : Int32))).1) k) ?_
    refine Goes.via (B := T17.setTop (mkF m 112 #[.val (.int p1), .val (.int p2), .val (.int p3), .val (.int p4), .val (.int p5), .val (.int (3 : Int32)), .val (.int v6), .val (.int v7), .val (.int v8), .val (.int v9), .val (.int v10), .val (.ref r13), .val (.ref r14), .val (.ref r15), .val (.ref r16)] [(.ref r13)])) (fun t k => XS.aload X17.here hx rfl (hb hby at_110) rfl rfl k) ?_
    refine Goes.via (B := T17.setTop (mkF m 114 #[.val (.int p1), .val (.int p2), .val (.int p3), .val (.int p4), .val (.int p5), .val (.int (3 : Int32)), .val (.int v6), .val (.int v7), .val (.int v8), .val (.int v9), .val (.int v10), .val (.ref r13), .val (.ref r14), .val (.ref r15), .val (.ref r16)] [(.ref r14), (.ref r13)])) (fun t k => XS.aload X17.here hx rfl (hb hby at_112) rfl rfl k) ?_
    refine Goes.via (B := T17.setTop (mkF m 116 #[.val (.int p1), .val (.int p2), .val (.int p3), .val (.int p4), .val (.int p5), .val (.int (3 : Int32)), .val (.int v6), .val (.int v7), .val (.int v8), .val (.int v9), .val (.int v10), .val (.ref r13), .val (.ref r14), .val (.ref r15), .val (.ref r16)] [(.int (3 : Int32)), (.ref r14), (.ref r13)])) (fun t k => XS.iload X17.here hx rfl (hb hby at_114) rfl k) ?_
    obtain ⟨_, _, ⟨T18, L18, kk18, nn18⟩, -, X18, ⟨Lc18, hQ18, l18, y18, z18⟩, st18⟩ := Jvm.LawKit.callS X17 hx (y := (⟨"com/example/highwater/highwater/embedded/KeysPrefixEndPinLaw", "same", "([B[BI)Z"⟩ : MethodName)) hown (mvT hZ (hw _ (List.mem_of_getElem? (i := 19) rfl))) (mvT hZ (hw _ (List.mem_of_getElem? (i := 20) rfl))) (mvT hZ (hw _ (List.mem_of_getElem? (i := 3) rfl))) (mvT hZ (hw _ (List.mem_of_getElem? (i := 21) rfl))) (by decide) (backOf (W := 0) (rm3_3 l Z a0 hw [] r13 r14 kq13 kq14 (nar .byte v6) (nar .byte v7) (nar .byte v9) T16.heap n0 Z16 Vr13_16 Vr14_16) hZ (hw _ (List.mem_of_getElem? (i := 21) rfl)) (hw _ (List.mem_of_getElem? (i := 3) rfl)) (by decide) (by decide)) (g := (mkF m 116 #[.val (.int p1), .val (.int p2), .val (.int p3), .val (.int p4), .val (.int p5), .val (.int (3 : Int32)), .val (.int v6), .val (.int v7), .val (.int v8), .val (.int v9), .val (.int v10), .val (.ref r13), .val (.ref r14), .val (.ref r15), .val (.ref r16)] [(.int (3 : Int32)), (.ref r14), (.ref r13)])) rfl (by rw [hml]; rfl) (argsL := [(.ref r13), (.ref r14), (.int (3 : Int32))]) (rest := []) (lenOf pd___B_BI_Z rfl) rfl (by show 2 * 0 + _ ≤ _; exact Nat.le_of_eq rfl) (hb hby at_116) (fun _ _ => ⟨rfl, hq17, (by decide : 4 + 0 ≤ _), (by decide : 12 + 0 ≤ _)⟩)
    dsimp only [Pt.U, Pt.locs, Pt.cells, Pt.slots] at X18 l18 y18 z18 st18 hQ18
    subst l18 y18 z18
    obtain ⟨rfl, Nq18, hq18⟩ := hQ18
    have N18 := Fr.app N17 Nq18
    refine Goes.via (B := T18.setTop (mkF m 119 #[.val (.int p1), .val (.int p2), .val (.int p3), .val (.int p4), .val (.int p5), .val (.int (3 : Int32)), .val (.int v6), .val (.int v7), .val (.int v8), .val (.int v9), .val (.int v10), .val (.ref r13), .val (.ref r14), .val (.ref r15), .val (.ref r16)] [(.int (1 : Int32))])) st18 ?_
    refine Goes.via (B := T18.setTop (mkF m 122 #[.val (.int p1), .val (.int p2), .val (.int p3), .val (.int p4), .val (.int p5), .val (.int (3 : Int32)), .val (.int v6), .val (.int v7), .val (.int v8), .val (.int v9), .val (.int v10), .val (.ref r13), .val (.ref r14), .val (.ref r15), .val (.ref r16)] [])) (fun t k => XS.ifNo X18.here hx rfl (hb hby at_119) rfl ((if0 _ _).trans (feq (by decide : ¬ (1 : Int32) = (0 : Int32))).1) k) ?_
    refine Goes.via (B := T18.setTop (mkF m 123 #[.val (.int p1), .val (.int p2), .val (.int p3), .val (.int p4), .val (.int p5), .val (.int (3 : Int32)), .val (.int v6), .val (.int v7), .val (.int v8), .val (.int v9), .val (.int v10), .val (.ref r13), .val (.ref r14), .val (.ref r15), .val (.ref r16)] [(.int (1 : Int32))])) (fun t k => XS.iconst X18.here hx rfl (hb hby at_122) k) ?_
    refine Goes.via (B := T18.setTop (mkF m 127 #[.val (.int p1), .val (.int p2), .val (.int p3), .val (.int p4), .val (.int p5), .val (.int (3 : Int32)), .val (.int v6), .val (.int v7), .val (.int v8), .val (.int v9), .val (.int v10), .val (.ref r13), .val (.ref r14), .val (.ref r15), .val (.ref r16)] [(.int (1 : Int32))])) (fun t k => XS.goto X18.here hx rfl (pc0 := 123) (pc' := 127) rfl (hb hby at_123) (by decide) (by decide) k) ?_
    exact own_out X18 (v := some (.int (1 : Int32))) (fun h => by rw [Bd.returns] at h; cases h) Bd.notSynchronized (fun fs hr => retOut X18 hx Bd.returns rfl (Or.inl ⟨rfl, Or.inr (Or.inl rfl), _, rfl⟩) (hb hby at_127) hr) ⟨rfl, N18⟩ (by decide) (by decide)
  · refine Goes.via (B := s₁.setTop (mkF m 41 #[.val (.int p1), .val (.int p2), .val (.int p3), .val (.int p4), .val (.int p5), .val (.int (4 : Int32)), .val (.int v6), .val (.int v7), .val (.int v8), .val (.int v9), .val (.int v10), .unset, .unset, .unset, .unset] [(.int (4 : Int32))])) (fun t k => XS.iload X0.here hx rfl (hb hby at_39) rfl k) ?_
    refine Goes.via (B := s₁.setTop (mkF m 43 #[.val (.int p1), .val (.int p2), .val (.int p3), .val (.int p4), .val (.int p5), .val (.int (4 : Int32)), .val (.int v6), .val (.int v7), .val (.int v8), .val (.int v9), .val (.int v10), .unset, .unset, .unset, .unset] [(.int v6), (.int (4 : Int32))])) (fun t k => XS.iload X0.here hx rfl (hb hby at_41) rfl k) ?_
    refine Goes.via (B := s₁.setTop (mkF m 45 #[.val (.int p1), .val (.int p2), .val (.int p3), .val (.int p4), .val (.int p5), .val (.int (4 : Int32)), .val (.int v6), .val (.int v7), .val (.int v8), .val (.int v9), .val (.int v10), .unset, .unset, .unset, .unset] [(.int v7), (.int v6), (.int (4 : Int32))])) (fun t k => XS.iload X0.here hx rfl (hb hby at_43) rfl k) ?_
    refine Goes.via (B := s₁.setTop (mkF m 47 #[.val (.int p1), .val (.int p2), .val (.int p3), .val (.int p4), .val (.int p5), .val (.int (4 : Int32)), .val (.int v6), .val (.int v7), .val (.int v8), .val (.int v9), .val (.int v10), .unset, .unset, .unset, .unset] [(.int v8), (.int v7), (.int v6), (.int (4 : Int32))])) (fun t k => XS.iload X0.here hx rfl (hb hby at_45) rfl k) ?_
    refine Goes.via (B := s₁.setTop (mkF m 49 #[.val (.int p1), .val (.int p2), .val (.int p3), .val (.int p4), .val (.int p5), .val (.int (4 : Int32)), .val (.int v6), .val (.int v7), .val (.int v8), .val (.int v9), .val (.int v10), .unset, .unset, .unset, .unset] [(.int v9), (.int v8), (.int v7), (.int v6), (.int (4 : Int32))])) (fun t k => XS.iload X0.here hx rfl (hb hby at_47) rfl k) ?_
    obtain ⟨_, _, ⟨T19, L19, kk19, nn19⟩, -, X19, ⟨Lc19, hQ19, l19, y19, z19⟩, st19⟩ := Jvm.LawKit.callS X0 hx (y := (⟨"com/example/highwater/highwater/embedded/KeysPrefixEndPinLaw", "make", "(IBBBB)[B"⟩ : MethodName)) hown (mvT hZ (hw _ (List.mem_of_getElem? (i := 1) rfl))) (mvT hZ (hw _ (List.mem_of_getElem? (i := 2) rfl))) (mvT hZ (hw _ (List.mem_of_getElem? (i := 3) rfl))) (mvT hZ (hw _ (List.mem_of_getElem? (i := 4) rfl))) (by decide) (backOf (W := 0) (rm1_4 l Z a0 hw [] v6 v7 v8 v9 h0 n0 Z0 ) hZ (hw _ (List.mem_of_getElem? (i := 4) rfl)) (hw _ (List.mem_of_getElem? (i := 3) rfl)) (by decide) (by decide)) (g := (mkF m 49 #[.val (.int p1), .val (.int p2), .val (.int p3), .val (.int p4), .val (.int p5), .val (.int (4 : Int32)), .val (.int v6), .val (.int v7), .val (.int v8), .val (.int v9), .val (.int v10), .unset, .unset, .unset, .unset] [(.int v9), (.int v8), (.int v7), (.int v6), (.int (4 : Int32))])) rfl (by rw [hml]; rfl) (argsL := [(.int (4 : Int32)), (.int v6), (.int v7), (.int v8), (.int v9)]) (rest := []) (lenOf pd__IBBBB__B rfl) rfl (by show 2 * 0 + _ ≤ _; exact Nat.le_of_eq rfl) (hb hby at_49) (fun _ _ => ⟨rfl, e0, (by decide : 0 + 1 ≤ _), (by decide : 0 + 4 ≤ _)⟩)
    dsimp only [Pt.U, Pt.locs, Pt.cells, Pt.slots] at X19 l19 y19 z19 st19 hQ19
    subst l19 y19 z19
    obtain ⟨rfl, Nq19, Kq19, Eq19, ⟨kq19, Vq19⟩⟩ := hQ19
    have N19 := Fr.app N0 Nq19
    obtain ⟨r19, g19⟩ : ∃ z, z = h0.size := ⟨_, rfl⟩
    rw [← g19] at Vq19 st19 Eq19
    have g_r19 : n0 ≤ r19 := Nat.le_trans Z0 (Nat.le_of_eq g19.symm)
    have Z19 : n0 ≤ T19.heap.size := Nat.le_trans Z0 Kq19.1
    have eq19 : T19.heap = T19.heap := rfl
    refine Goes.via (B := T19.setTop (mkF m 52 #[.val (.int p1), .val (.int p2), .val (.int p3), .val (.int p4), .val (.int p5), .val (.int (4 : Int32)), .val (.int v6), .val (.int v7), .val (.int v8), .val (.int v9), .val (.int v10), .unset, .unset, .unset, .unset] [(.ref r19)])) st19 ?_
    refine Goes.via (B := T19.setTop (mkF m 54 #[.val (.int p1), .val (.int p2), .val (.int p3), .val (.int p4), .val (.int p5), .val (.int (4 : Int32)), .val (.int v6), .val (.int v7), .val (.int v8), .val (.int v9), .val (.int v10), .val (.ref r19), .unset, .unset, .unset] [])) (fun t k => XS.astore X19.here hx rfl (hb hby at_52) rfl rfl (l' := #[.val (.int p1), .val (.int p2), .val (.int p3), .val (.int p4), .val (.int p5), .val (.int (4 : Int32)), .val (.int v6), .val (.int v7), .val (.int v8), .val (.int v9), .val (.int v10), .val (.ref r19), .unset, .unset, .unset]) rfl k) ?_
    refine Goes.via (B := T19.setTop (mkF m 56 #[.val (.int p1), .val (.int p2), .val (.int p3), .val (.int p4), .val (.int p5), .val (.int (4 : Int32)), .val (.int v6), .val (.int v7), .val (.int v8), .val (.int v9), .val (.int v10), .val (.ref r19), .unset, .unset, .unset] [(.int (4 : Int32))])) (fun t k => XS.iload X19.here hx rfl (hb hby at_54) rfl k) ?_
    refine Goes.via (B := T19.setTop (mkF m 58 #[.val (.int p1), .val (.int p2), .val (.int p3), .val (.int p4), .val (.int p5), .val (.int (4 : Int32)), .val (.int v6), .val (.int v7), .val (.int v8), .val (.int v9), .val (.int v10), .val (.ref r19), .unset, .unset, .unset] [(.int v6), (.int (4 : Int32))])) (fun t k => XS.iload X19.here hx rfl (hb hby at_56) rfl k) ?_
    refine Goes.via (B := T19.setTop (mkF m 60 #[.val (.int p1), .val (.int p2), .val (.int p3), .val (.int p4), .val (.int p5), .val (.int (4 : Int32)), .val (.int v6), .val (.int v7), .val (.int v8), .val (.int v9), .val (.int v10), .val (.ref r19), .unset, .unset, .unset] [(.int v7), (.int v6), (.int (4 : Int32))])) (fun t k => XS.iload X19.here hx rfl (hb hby at_58) rfl k) ?_
    refine Goes.via (B := T19.setTop (mkF m 62 #[.val (.int p1), .val (.int p2), .val (.int p3), .val (.int p4), .val (.int p5), .val (.int (4 : Int32)), .val (.int v6), .val (.int v7), .val (.int v8), .val (.int v9), .val (.int v10), .val (.ref r19), .unset, .unset, .unset] [(.int v8), (.int v7), (.int v6), (.int (4 : Int32))])) (fun t k => XS.iload X19.here hx rfl (hb hby at_60) rfl k) ?_
    refine Goes.via (B := T19.setTop (mkF m 64 #[.val (.int p1), .val (.int p2), .val (.int p3), .val (.int p4), .val (.int p5), .val (.int (4 : Int32)), .val (.int v6), .val (.int v7), .val (.int v8), .val (.int v9), .val (.int v10), .val (.ref r19), .unset, .unset, .unset] [(.int v9), (.int v8), (.int v7), (.int v6), (.int (4 : Int32))])) (fun t k => XS.iload X19.here hx rfl (hb hby at_62) rfl k) ?_
    obtain ⟨_, _, ⟨T20, L20, kk20, nn20⟩, -, X20, ⟨Lc20, hQ20, l20, y20, z20⟩, st20⟩ := Jvm.LawKit.callS X19 hx (y := (⟨"com/example/highwater/highwater/embedded/KeysPrefixEndPinLaw", "make", "(IBBBB)[B"⟩ : MethodName)) hown (mvT hZ (hw _ (List.mem_of_getElem? (i := 1) rfl))) (mvT hZ (hw _ (List.mem_of_getElem? (i := 2) rfl))) (mvT hZ (hw _ (List.mem_of_getElem? (i := 3) rfl))) (mvT hZ (hw _ (List.mem_of_getElem? (i := 4) rfl))) (by decide) (backOf (W := 0) (rm1_4 l Z a0 hw [] v6 v7 v8 v9 T19.heap n0 Z19 ) hZ (hw _ (List.mem_of_getElem? (i := 4) rfl)) (hw _ (List.mem_of_getElem? (i := 3) rfl)) (by decide) (by decide)) (g := (mkF m 64 #[.val (.int p1), .val (.int p2), .val (.int p3), .val (.int p4), .val (.int p5), .val (.int (4 : Int32)), .val (.int v6), .val (.int v7), .val (.int v8), .val (.int v9), .val (.int v10), .val (.ref r19), .unset, .unset, .unset] [(.int v9), (.int v8), (.int v7), (.int v6), (.int (4 : Int32))])) rfl (by rw [hml]; rfl) (argsL := [(.int (4 : Int32)), (.int v6), (.int v7), (.int v8), (.int v9)]) (rest := []) (lenOf pd__IBBBB__B rfl) rfl (by show 2 * 0 + _ ≤ _; exact Nat.le_of_eq rfl) (hb hby at_64) (fun _ _ => ⟨rfl, eq19, (by decide : 1 + 1 ≤ _), (by decide : 4 + 4 ≤ _)⟩)
    dsimp only [Pt.U, Pt.locs, Pt.cells, Pt.slots] at X20 l20 y20 z20 st20 hQ20
    subst l20 y20 z20
    obtain ⟨rfl, Nq20, Kq20, Eq20, ⟨kq20, Vq20⟩⟩ := hQ20
    have N20 := Fr.app N19 Nq20
    obtain ⟨r20, g20⟩ : ∃ z, z = T19.heap.size := ⟨_, rfl⟩
    rw [← g20] at Vq20 st20 Eq20
    have ne_r19_r20 : r19 ≠ r20 := Nat.ne_of_lt (Nat.lt_of_lt_of_le Vq19.lt (Nat.le_of_eq g20.symm))
    have Vr19_20 := Vq19.keep Kq20 nin0
    have Er19_20 := Eq19.keep Kq20
    have g_r20 : n0 ≤ r20 := Nat.le_trans Z19 (Nat.le_of_eq g20.symm)
    have Z20 : n0 ≤ T20.heap.size := Nat.le_trans Z19 Kq20.1
    have eq20 : T20.heap = T20.heap := rfl
    refine Goes.via (B := T20.setTop (mkF m 67 #[.val (.int p1), .val (.int p2), .val (.int p3), .val (.int p4), .val (.int p5), .val (.int (4 : Int32)), .val (.int v6), .val (.int v7), .val (.int v8), .val (.int v9), .val (.int v10), .val (.ref r19), .unset, .unset, .unset] [(.ref r20)])) st20 ?_
    refine Goes.via (B := T20.setTop (mkF m 69 #[.val (.int p1), .val (.int p2), .val (.int p3), .val (.int p4), .val (.int p5), .val (.int (4 : Int32)), .val (.int v6), .val (.int v7), .val (.int v8), .val (.int v9), .val (.int v10), .val (.ref r19), .val (.ref r20), .unset, .unset] [])) (fun t k => XS.astore X20.here hx rfl (hb hby at_67) rfl rfl (l' := #[.val (.int p1), .val (.int p2), .val (.int p3), .val (.int p4), .val (.int p5), .val (.int (4 : Int32)), .val (.int v6), .val (.int v7), .val (.int v8), .val (.int v9), .val (.int v10), .val (.ref r19), .val (.ref r20), .unset, .unset]) rfl k) ?_
    refine Goes.via (B := T20.setTop (mkF m 71 #[.val (.int p1), .val (.int p2), .val (.int p3), .val (.int p4), .val (.int p5), .val (.int (4 : Int32)), .val (.int v6), .val (.int v7), .val (.int v8), .val (.int v9), .val (.int v10), .val (.ref r19), .val (.ref r20), .unset, .unset] [(.int (4 : Int32))])) (fun t k => XS.iload X20.here hx rfl (hb hby at_69) rfl k) ?_
    refine Goes.via (B := T20.setTop (mkF m 73 #[.val (.int p1), .val (.int p2), .val (.int p3), .val (.int p4), .val (.int p5), .val (.int (4 : Int32)), .val (.int v6), .val (.int v7), .val (.int v8), .val (.int v9), .val (.int v10), .val (.ref r19), .val (.ref r20), .unset, .unset] [(.int v6), (.int (4 : Int32))])) (fun t k => XS.iload X20.here hx rfl (hb hby at_71) rfl k) ?_
    refine Goes.via (B := T20.setTop (mkF m 75 #[.val (.int p1), .val (.int p2), .val (.int p3), .val (.int p4), .val (.int p5), .val (.int (4 : Int32)), .val (.int v6), .val (.int v7), .val (.int v8), .val (.int v9), .val (.int v10), .val (.ref r19), .val (.ref r20), .unset, .unset] [(.int v7), (.int v6), (.int (4 : Int32))])) (fun t k => XS.iload X20.here hx rfl (hb hby at_73) rfl k) ?_
    refine Goes.via (B := T20.setTop (mkF m 77 #[.val (.int p1), .val (.int p2), .val (.int p3), .val (.int p4), .val (.int p5), .val (.int (4 : Int32)), .val (.int v6), .val (.int v7), .val (.int v8), .val (.int v9), .val (.int v10), .val (.ref r19), .val (.ref r20), .unset, .unset] [(.int v8), (.int v7), (.int v6), (.int (4 : Int32))])) (fun t k => XS.iload X20.here hx rfl (hb hby at_75) rfl k) ?_
    refine Goes.via (B := T20.setTop (mkF m 79 #[.val (.int p1), .val (.int p2), .val (.int p3), .val (.int p4), .val (.int p5), .val (.int (4 : Int32)), .val (.int v6), .val (.int v7), .val (.int v8), .val (.int v9), .val (.int v10), .val (.ref r19), .val (.ref r20), .unset, .unset] [(.int v10), (.int v8), (.int v7), (.int v6), (.int (4 : Int32))])) (fun t k => XS.iload X20.here hx rfl (hb hby at_77) rfl k) ?_
    obtain ⟨_, _, ⟨T21, L21, kk21, nn21⟩, -, X21, ⟨Lc21, hQ21, l21, y21, z21⟩, st21⟩ := Jvm.LawKit.callS X20 hx (y := (⟨"com/example/highwater/highwater/embedded/KeysPrefixEndPinLaw", "make", "(IBBBB)[B"⟩ : MethodName)) hown (mvT hZ (hw _ (List.mem_of_getElem? (i := 1) rfl))) (mvT hZ (hw _ (List.mem_of_getElem? (i := 2) rfl))) (mvT hZ (hw _ (List.mem_of_getElem? (i := 3) rfl))) (mvT hZ (hw _ (List.mem_of_getElem? (i := 4) rfl))) (by decide) (backOf (W := 0) (rm1_4 l Z a0 hw [] v6 v7 v8 v10 T20.heap n0 Z20 ) hZ (hw _ (List.mem_of_getElem? (i := 4) rfl)) (hw _ (List.mem_of_getElem? (i := 3) rfl)) (by decide) (by decide)) (g := (mkF m 79 #[.val (.int p1), .val (.int p2), .val (.int p3), .val (.int p4), .val (.int p5), .val (.int (4 : Int32)), .val (.int v6), .val (.int v7), .val (.int v8), .val (.int v9), .val (.int v10), .val (.ref r19), .val (.ref r20), .unset, .unset] [(.int v10), (.int v8), (.int v7), (.int v6), (.int (4 : Int32))])) rfl (by rw [hml]; rfl) (argsL := [(.int (4 : Int32)), (.int v6), (.int v7), (.int v8), (.int v10)]) (rest := []) (lenOf pd__IBBBB__B rfl) rfl (by show 2 * 0 + _ ≤ _; exact Nat.le_of_eq rfl) (hb hby at_79) (fun _ _ => ⟨rfl, eq20, (by decide : 2 + 1 ≤ _), (by decide : 8 + 4 ≤ _)⟩)
    dsimp only [Pt.U, Pt.locs, Pt.cells, Pt.slots] at X21 l21 y21 z21 st21 hQ21
    subst l21 y21 z21
    obtain ⟨rfl, Nq21, Kq21, Eq21, ⟨kq21, Vq21⟩⟩ := hQ21
    have N21 := Fr.app N20 Nq21
    obtain ⟨r21, g21⟩ : ∃ z, z = T20.heap.size := ⟨_, rfl⟩
    rw [← g21] at Vq21 st21 Eq21
    have ne_r19_r21 : r19 ≠ r21 := Nat.ne_of_lt (Nat.lt_of_lt_of_le Vr19_20.lt (Nat.le_of_eq g21.symm))
    have ne_r20_r21 : r20 ≠ r21 := Nat.ne_of_lt (Nat.lt_of_lt_of_le Vq20.lt (Nat.le_of_eq g21.symm))
    have Vr19_21 := Vr19_20.keep Kq21 nin0
    have Vr20_21 := Vq20.keep Kq21 nin0
    have Er19_21 := Er19_20.keep Kq21
    have Er20_21 := Eq20.keep Kq21
    have g_r21 : n0 ≤ r21 := Nat.le_trans Z20 (Nat.le_of_eq g21.symm)
    have Z21 : n0 ≤ T21.heap.size := Nat.le_trans Z20 Kq21.1
    have eq21 : T21.heap = T21.heap := rfl
    refine Goes.via (B := T21.setTop (mkF m 82 #[.val (.int p1), .val (.int p2), .val (.int p3), .val (.int p4), .val (.int p5), .val (.int (4 : Int32)), .val (.int v6), .val (.int v7), .val (.int v8), .val (.int v9), .val (.int v10), .val (.ref r19), .val (.ref r20), .unset, .unset] [(.ref r21)])) st21 ?_
    refine Goes.via (B := T21.setTop (mkF m 84 #[.val (.int p1), .val (.int p2), .val (.int p3), .val (.int p4), .val (.int p5), .val (.int (4 : Int32)), .val (.int v6), .val (.int v7), .val (.int v8), .val (.int v9), .val (.int v10), .val (.ref r19), .val (.ref r20), .val (.ref r21), .unset] [])) (fun t k => XS.astore X21.here hx rfl (hb hby at_82) rfl rfl (l' := #[.val (.int p1), .val (.int p2), .val (.int p3), .val (.int p4), .val (.int p5), .val (.int (4 : Int32)), .val (.int v6), .val (.int v7), .val (.int v8), .val (.int v9), .val (.int v10), .val (.ref r19), .val (.ref r20), .val (.ref r21), .unset]) rfl k) ?_
    refine Goes.via (B := T21.setTop (mkF m 86 #[.val (.int p1), .val (.int p2), .val (.int p3), .val (.int p4), .val (.int p5), .val (.int (4 : Int32)), .val (.int v6), .val (.int v7), .val (.int v8), .val (.int v9), .val (.int v10), .val (.ref r19), .val (.ref r20), .val (.ref r21), .unset] [(.ref r19)])) (fun t k => XS.aload X21.here hx rfl (hb hby at_84) rfl rfl k) ?_
    obtain ⟨_, _, ⟨T22, L22, kk22, nn22⟩, -, X22, ⟨Lc22, hQ22, l22, y22, z22⟩, st22⟩ := Jvm.LawKit.callS X21 hx (y := (⟨"com/example/highwater/highwater/embedded/Keys", "prefixEnd", "([B)[B"⟩ : MethodName)) hown (mvT hZ (hw _ (List.mem_of_getElem? (i := 6) rfl))) (mvT hZ (hw _ (List.mem_of_getElem? (i := 7) rfl))) (mvT hZ (hw _ (List.mem_of_getElem? (i := 8) rfl))) (mvT hZ (hw _ (List.mem_of_getElem? (i := 9) rfl))) (by decide) (backOf (W := 0) (rm2_4 l Z a0 hw [] r19 kq19 (nar .byte v6) (nar .byte v7) (nar .byte v8) (nar .byte v9) T21.heap n0 Z21 Vr19_21 Er19_21) hZ (hw _ (List.mem_of_getElem? (i := 9) rfl)) (hw _ (List.mem_of_getElem? (i := 8) rfl)) (by decide) (by decide)) (g := (mkF m 86 #[.val (.int p1), .val (.int p2), .val (.int p3), .val (.int p4), .val (.int p5), .val (.int (4 : Int32)), .val (.int v6), .val (.int v7), .val (.int v8), .val (.int v9), .val (.int v10), .val (.ref r19), .val (.ref r20), .val (.ref r21), .unset] [(.ref r19)])) rfl (by rw [hml]; rfl) (argsL := [(.ref r19)]) (rest := []) (lenOf pd___B__B rfl) rfl (by show 2 * 0 + _ ≤ _; exact Nat.le_of_eq rfl) (hb hby at_86) (fun _ _ => ⟨rfl, eq21, (by decide : 3 + 1 ≤ _), (by decide : 12 + 4 ≤ _)⟩)
    dsimp only [Pt.U, Pt.locs, Pt.cells, Pt.slots] at X22 l22 y22 z22 st22 hQ22
    subst l22 y22 z22
    obtain ⟨rfl, Nq22, Kq22, ⟨kq22, Vq22⟩⟩ := hQ22
    have N22 := Fr.app N21 Nq22
    rw [own_nv hv9, hv10] at Vq22
    obtain ⟨r22, g22⟩ : ∃ z, z = T21.heap.size := ⟨_, rfl⟩
    rw [← g22] at Vq22 st22
    have ne_r19_r22 : r19 ≠ r22 := Nat.ne_of_lt (Nat.lt_of_lt_of_le Vr19_21.lt (Nat.le_of_eq g22.symm))
    have ne_r20_r22 : r20 ≠ r22 := Nat.ne_of_lt (Nat.lt_of_lt_of_le Vr20_21.lt (Nat.le_of_eq g22.symm))
    have ne_r21_r22 : r21 ≠ r22 := Nat.ne_of_lt (Nat.lt_of_lt_of_le Vq21.lt (Nat.le_of_eq g22.symm))
    have Vr19_22 := Vr19_21.keep Kq22 nin0
    have Vr20_22 := Vr20_21.keep Kq22 nin0
    have Vr21_22 := Vq21.keep Kq22 nin0
    have Er19_22 := Er19_21.keep Kq22
    have Er20_22 := Er20_21.keep Kq22
    have Er21_22 := Eq21.keep Kq22
    have g_r22 : n0 ≤ r22 := Nat.le_trans Z21 (Nat.le_of_eq g22.symm)
    have Z22 : n0 ≤ T22.heap.size := Nat.le_trans Z21 Kq22.1
    have eq22 : T22.heap = T22.heap := rfl
    refine Goes.via (B := T22.setTop (mkF m 89 #[.val (.int p1), .val (.int p2), .val (.int p3), .val (.int p4), .val (.int p5), .val (.int (4 : Int32)), .val (.int v6), .val (.int v7), .val (.int v8), .val (.int v9), .val (.int v10), .val (.ref r19), .val (.ref r20), .val (.ref r21), .unset] [(.ref r22)])) st22 ?_
    refine Goes.via (B := T22.setTop (mkF m 91 #[.val (.int p1), .val (.int p2), .val (.int p3), .val (.int p4), .val (.int p5), .val (.int (4 : Int32)), .val (.int v6), .val (.int v7), .val (.int v8), .val (.int v9), .val (.int v10), .val (.ref r19), .val (.ref r20), .val (.ref r21), .val (.ref r22)] [])) (fun t k => XS.astore X22.here hx rfl (hb hby at_89) rfl rfl (l' := #[.val (.int p1), .val (.int p2), .val (.int p3), .val (.int p4), .val (.int p5), .val (.int (4 : Int32)), .val (.int v6), .val (.int v7), .val (.int v8), .val (.int v9), .val (.int v10), .val (.ref r19), .val (.ref r20), .val (.ref r21), .val (.ref r22)]) rfl k) ?_
    refine Goes.via (B := T22.setTop (mkF m 93 #[.val (.int p1), .val (.int p2), .val (.int p3), .val (.int p4), .val (.int p5), .val (.int (4 : Int32)), .val (.int v6), .val (.int v7), .val (.int v8), .val (.int v9), .val (.int v10), .val (.ref r19), .val (.ref r20), .val (.ref r21), .val (.ref r22)] [(.ref r22)])) (fun t k => XS.aload X22.here hx rfl (hb hby at_91) rfl rfl k) ?_
    refine Goes.via (B := T22.setTop (mkF m 95 #[.val (.int p1), .val (.int p2), .val (.int p3), .val (.int p4), .val (.int p5), .val (.int (4 : Int32)), .val (.int v6), .val (.int v7), .val (.int v8), .val (.int v9), .val (.int v10), .val (.ref r19), .val (.ref r20), .val (.ref r21), .val (.ref r22)] [(.ref r19), (.ref r22)])) (fun t k => XS.aload X22.here hx rfl (hb hby at_93) rfl rfl k) ?_
    refine Goes.via (B := T22.setTop (mkF m 98 #[.val (.int p1), .val (.int p2), .val (.int p3), .val (.int p4), .val (.int p5), .val (.int (4 : Int32)), .val (.int v6), .val (.int v7), .val (.int v8), .val (.int v9), .val (.int v10), .val (.ref r19), .val (.ref r20), .val (.ref r21), .val (.ref r22)] [])) (fun t k => Jvm.RoadKit.acmp X22 hx rfl (x := (.ref r22)) (y := (.ref r19)) rfl rfl (pc0 := 95) (pc' := 98) rfl (hb hby at_95) rfl (decide_eq_false (fun q => (Ne.symm ne_r19_r22) (Value.ref.inj q))) (by decide) (by decide) k) ?_
    refine Goes.via (B := T22.setTop (mkF m 100 #[.val (.int p1), .val (.int p2), .val (.int p3), .val (.int p4), .val (.int p5), .val (.int (4 : Int32)), .val (.int v6), .val (.int v7), .val (.int v8), .val (.int v9), .val (.int v10), .val (.ref r19), .val (.ref r20), .val (.ref r21), .val (.ref r22)] [(.ref r22)])) (fun t k => XS.aload X22.here hx rfl (hb hby at_98) rfl rfl k) ?_
    refine Goes.via (B := T22.setTop (mkF m 102 #[.val (.int p1), .val (.int p2), .val (.int p3), .val (.int p4), .val (.int p5), .val (.int (4 : Int32)), .val (.int v6), .val (.int v7), .val (.int v8), .val (.int v9), .val (.int v10), .val (.ref r19), .val (.ref r20), .val (.ref r21), .val (.ref r22)] [(.ref r21), (.ref r22)])) (fun t k => XS.aload X22.here hx rfl (hb hby at_100) rfl rfl k) ?_
    refine Goes.via (B := T22.setTop (mkF m 104 #[.val (.int p1), .val (.int p2), .val (.int p3), .val (.int p4), .val (.int p5), .val (.int (4 : Int32)), .val (.int v6), .val (.int v7), .val (.int v8), .val (.int v9), .val (.int v10), .val (.ref r19), .val (.ref r20), .val (.ref r21), .val (.ref r22)] [(.int (4 : Int32)), (.ref r21), (.ref r22)])) (fun t k => XS.iload X22.here hx rfl (hb hby at_102) rfl k) ?_
    obtain ⟨_, _, ⟨T23, L23, kk23, nn23⟩, -, X23, ⟨Lc23, hQ23, l23, y23, z23⟩, st23⟩ := Jvm.LawKit.callS X22 hx (y := (⟨"com/example/highwater/highwater/embedded/KeysPrefixEndPinLaw", "same", "([B[BI)Z"⟩ : MethodName)) hown (mvT hZ (hw _ (List.mem_of_getElem? (i := 19) rfl))) (mvT hZ (hw _ (List.mem_of_getElem? (i := 20) rfl))) (mvT hZ (hw _ (List.mem_of_getElem? (i := 3) rfl))) (mvT hZ (hw _ (List.mem_of_getElem? (i := 21) rfl))) (by decide) (backOf (W := 0) (rm3_4 l Z a0 hw [] r22 r21 kq22 kq21 (nar .byte v6) (nar .byte v7) (nar .byte v8) (nar .byte v10) T22.heap n0 Z22 Vq22 Vr21_22) hZ (hw _ (List.mem_of_getElem? (i := 21) rfl)) (hw _ (List.mem_of_getElem? (i := 3) rfl)) (by decide) (by decide)) (g := (mkF m 104 #[.val (.int p1), .val (.int p2), .val (.int p3), .val (.int p4), .val (.int p5), .val (.int (4 : Int32)), .val (.int v6), .val (.int v7), .val (.int v8), .val (.int v9), .val (.int v10), .val (.ref r19), .val (.ref r20), .val (.ref r21), .val (.ref r22)] [(.int (4 : Int32)), (.ref r21), (.ref r22)])) rfl (by rw [hml]; rfl) (argsL := [(.ref r22), (.ref r21), (.int (4 : Int32))]) (rest := []) (lenOf pd___B_BI_Z rfl) rfl (by show 2 * 0 + _ ≤ _; exact Nat.le_of_eq rfl) (hb hby at_104) (fun _ _ => ⟨rfl, eq22, (by decide : 4 + 0 ≤ _), (by decide : 16 + 0 ≤ _)⟩)
    dsimp only [Pt.U, Pt.locs, Pt.cells, Pt.slots] at X23 l23 y23 z23 st23 hQ23
    subst l23 y23 z23
    obtain ⟨rfl, Nq23, hq23⟩ := hQ23
    have N23 := Fr.app N22 Nq23
    refine Goes.via (B := T23.setTop (mkF m 107 #[.val (.int p1), .val (.int p2), .val (.int p3), .val (.int p4), .val (.int p5), .val (.int (4 : Int32)), .val (.int v6), .val (.int v7), .val (.int v8), .val (.int v9), .val (.int v10), .val (.ref r19), .val (.ref r20), .val (.ref r21), .val (.ref r22)] [(.int (1 : Int32))])) st23 ?_
    refine Goes.via (B := T23.setTop (mkF m 110 #[.val (.int p1), .val (.int p2), .val (.int p3), .val (.int p4), .val (.int p5), .val (.int (4 : Int32)), .val (.int v6), .val (.int v7), .val (.int v8), .val (.int v9), .val (.int v10), .val (.ref r19), .val (.ref r20), .val (.ref r21), .val (.ref r22)] [])) (fun t k => XS.ifNo X23.here hx rfl (hb hby at_107) rfl ((if0 _ _).trans (feq (by decide : ¬ (1 : Int32) = (0 : Int32))).1) k) ?_
    refine Goes.via (B := T23.setTop (mkF m 112 #[.val (.int p1), .val (.int p2), .val (.int p3), .val (.int p4), .val (.int p5), .val (.int (4 : Int32)), .val (.int v6), .val (.int v7), .val (.int v8), .val (.int v9), .val (.int v10), .val (.ref r19), .val (.ref r20), .val (.ref r21), .val (.ref r22)] [(.ref r19)])) (fun t k => XS.aload X23.here hx rfl (hb hby at_110) rfl rfl k) ?_
    refine Goes.via (B := T23.setTop (mkF m 114 #[.val (.int p1), .val (.int p2), .val (.int p3), .val (.int p4), .val (.int p5), .val (.int (4 : Int32)), .val (.int v6), .val (.int v7), .val (.int v8), .val (.int v9), .val (.int v10), .val (.ref r19), .val (.ref r20), .val (.ref r21), .val (.ref r22)] [(.ref r20), (.ref r19)])) (fun t k => XS.aload X23.here hx rfl (hb hby at_112) rfl rfl k) ?_
    refine Goes.via (B := T23.setTop (mkF m 116 #[.val (.int p1), .val (.int p2), .val (.int p3), .val (.int p4), .val (.int p5), .val (.int (4 : Int32)), .val (.int v6), .val (.int v7), .val (.int v8), .val (.int v9), .val (.int v10), .val (.ref r19), .val (.ref r20), .val (.ref r21), .val (.ref r22)] [(.int (4 : Int32)), (.ref r20), (.ref r19)])) (fun t k => XS.iload X23.here hx rfl (hb hby at_114) rfl k) ?_
    obtain ⟨_, _, ⟨T24, L24, kk24, nn24⟩, -, X24, ⟨Lc24, hQ24, l24, y24, z24⟩, st24⟩ := Jvm.LawKit.callS X23 hx (y := (⟨"com/example/highwater/highwater/embedded/KeysPrefixEndPinLaw", "same", "([B[BI)Z"⟩ : MethodName)) hown (mvT hZ (hw _ (List.mem_of_getElem? (i := 19) rfl))) (mvT hZ (hw _ (List.mem_of_getElem? (i := 20) rfl))) (mvT hZ (hw _ (List.mem_of_getElem? (i := 3) rfl))) (mvT hZ (hw _ (List.mem_of_getElem? (i := 21) rfl))) (by decide) (backOf (W := 0) (rm3_4 l Z a0 hw [] r19 r20 kq19 kq20 (nar .byte v6) (nar .byte v7) (nar .byte v8) (nar .byte v9) T22.heap n0 Z22 Vr19_22 Vr20_22) hZ (hw _ (List.mem_of_getElem? (i := 21) rfl)) (hw _ (List.mem_of_getElem? (i := 3) rfl)) (by decide) (by decide)) (g := (mkF m 116 #[.val (.int p1), .val (.int p2), .val (.int p3), .val (.int p4), .val (.int p5), .val (.int (4 : Int32)), .val (.int v6), .val (.int v7), .val (.int v8), .val (.int v9), .val (.int v10), .val (.ref r19), .val (.ref r20), .val (.ref r21), .val (.ref r22)] [(.int (4 : Int32)), (.ref r20), (.ref r19)])) rfl (by rw [hml]; rfl) (argsL := [(.ref r19), (.ref r20), (.int (4 : Int32))]) (rest := []) (lenOf pd___B_BI_Z rfl) rfl (by show 2 * 0 + _ ≤ _; exact Nat.le_of_eq rfl) (hb hby at_116) (fun _ _ => ⟨rfl, hq23, (by decide : 4 + 0 ≤ _), (by decide : 16 + 0 ≤ _)⟩)
    dsimp only [Pt.U, Pt.locs, Pt.cells, Pt.slots] at X24 l24 y24 z24 st24 hQ24
    subst l24 y24 z24
    obtain ⟨rfl, Nq24, hq24⟩ := hQ24
    have N24 := Fr.app N23 Nq24
    refine Goes.via (B := T24.setTop (mkF m 119 #[.val (.int p1), .val (.int p2), .val (.int p3), .val (.int p4), .val (.int p5), .val (.int (4 : Int32)), .val (.int v6), .val (.int v7), .val (.int v8), .val (.int v9), .val (.int v10), .val (.ref r19), .val (.ref r20), .val (.ref r21), .val (.ref r22)] [(.int (1 : Int32))])) st24 ?_
    refine Goes.via (B := T24.setTop (mkF m 122 #[.val (.int p1), .val (.int p2), .val (.int p3), .val (.int p4), .val (.int p5), .val (.int (4 : Int32)), .val (.int v6), .val (.int v7), .val (.int v8), .val (.int v9), .val (.int v10), .val (.ref r19), .val (.ref r20), .val (.ref r21), .val (.ref r22)] [])) (fun t k => XS.ifNo X24.here hx rfl (hb hby at_119) rfl ((if0 _ _).trans (feq (by decide : ¬ (1 : Int32) = (0 : Int32))).1) k) ?_
    refine Goes.via (B := T24.setTop (mkF m 123 #[.val (.int p1), .val (.int p2), .val (.int p3), .val (.int p4), .val (.int p5), .val (.int (4 : Int32)), .val (.int v6), .val (.int v7), .val (.int v8), .val (.int v9), .val (.int v10), .val (.ref r19), .val (.ref r20), .val (.ref r21), .val (.ref r22)] [(.int (1 : Int32))])) (fun t k => XS.iconst X24.here hx rfl (hb hby at_122) k) ?_
    refine Goes.via (B := T24.setTop (mkF m 127 #[.val (.int p1), .val (.int p2), .val (.int p3), .val (.int p4), .val (.int p5), .val (.int (4 : Int32)), .val (.int v6), .val (.int v7), .val (.int v8), .val (.int v9), .val (.int v10), .val (.ref r19), .val (.ref r20), .val (.ref r21), .val (.ref r22)] [(.int (1 : Int32))])) (fun t k => XS.goto X24.here hx rfl (pc0 := 123) (pc' := 127) rfl (hb hby at_123) (by decide) (by decide) k) ?_
    exact own_out X24 (v := some (.int (1 : Int32))) (fun h => by rw [Bd.returns] at h; cases h) Bd.notSynchronized (fun fs hr => retOut X24 hx Bd.returns rfl (Or.inl ⟨rfl, Or.inr (Or.inl rfl), _, rfl⟩) (hb hby at_127) hr) ⟨rfl, N24⟩ (by decide) (by decide)
set_option maxRecDepth 65536 in
set_option maxHeartbeats 40000000 in
theorem comes_1 {Post : Tables → Env → Array Value → State → Outcome → State → Prop} (hpost : ∀ tb e args s v u, (limb_1_1.after args s (.returned v) u = true ∧ limb_1_2.after args s (.returned v) u = true ∧ True) → FrameEnd s (.returned v) u (Jvm.fieldLocs frame_1_writes args s ++ Jvm.arrayLocs frame_1_arrays args s ++ Jvm.staticLocs frame_1_statics s) 16 128 → Post tb e args s (.returned v) u) :
    ArmFor flags0 classFile x code maxLocals ret World_1 tables_1 room_1 Calls_1 rest_1 Pre_1 Post := by
  intro l hfl _ _ p e ha hc hk s m args below hf hA hF happ hP
  obtain ⟨hcalls, hrest, hpre⟩ := hP
  obtain ⟨-, -, -, hnamed, -, -, -, hat⟩ := (Spec.applies_iff hf).mp happ
  obtain ⟨hg, hn⟩ := and_e (Cond.before_iff.mp (show (Jvm.Cond.and given_1 narrow_1).before args s = true from hpre))
  obtain ⟨h1, r0⟩ := and_e hg
  obtain ⟨t0, r1⟩ := and_e r0
  obtain ⟨t1, r2⟩ := and_e r1
  obtain ⟨t2, r3⟩ := and_e r2
  obtain ⟨t3, r4⟩ := and_e r3
  obtain ⟨w0, w1, w2, w3, w4, rfl⟩ : ∃ w0 w1 w2 w3 w4 : Value, args = #[w0, w1, w2, w3, w4] := by
    have hs : args.size = 5 := by simpa [Cond.value, given_1] using h1
    obtain ⟨L⟩ := args
    match L, hs with
    | [w0, w1, w2, w3, w4], _ => exact ⟨w0, w1, w2, w3, w4, rfl⟩
  have hw := fun d (hd : d ∈ tables_1) => atoms_spec (ws := Jvm.Cond.code x code maxLocals ret :: tables_1) hat d (List.mem_cons_of_mem _ hd)
  obtain ⟨i0, q0⟩ := is_v t0
  obtain rfl : w0 = (.int i0) := Option.some.inj q0
  obtain ⟨i1, q1⟩ := is_v t1
  obtain rfl : w1 = (.int i1) := Option.some.inj q1
  obtain ⟨i2, q2⟩ := is_v t2
  obtain rfl : w2 = (.int i2) := Option.some.inj q2
  obtain ⟨i3, q3⟩ := is_v t3
  obtain rfl : w3 = (.int i3) := Option.some.inj q3
  obtain ⟨i4, q4⟩ := is_v r4
  obtain rfl : w4 = (.int i4) := Option.some.inj q4
  obtain ⟨n, o, h1, h2, h3, _, L, rfl, ⟨rfl, N⟩, hq⟩ := rm0 l s _ hw tables_1 i0 i1 i2 i3 i4  s.heap s.heap.size (Nat.le_refl _) p e ha hc hk s m _ below hf ((Spec.applies_iff_loose hf).mp happ).1 ⟨rfl, State.Warmed39.refl s, rfl⟩ trivial
  refine ⟨n, _, h1, h2, h3, hpost _ _ _ _ _ _ ⟨Cond.after_iff.mpr rfl, Cond.after_iff.mpr (eq_i res_at (Term.int_eval (1)) rfl), trivial⟩ ⟨hq.1, hq.2.1, (hq.2.2.sift fun y hy => Or.inr (N y hy)).mono (by decide) (by decide)⟩⟩
theorem main_1_1 : Claimed_1_1 := comes_1 fun _ _ _ _ _ _ h hF => ⟨h.1, hF⟩
theorem main_1_2 : Claimed_1_2 := comes_1 fun _ _ _ _ _ _ h hF => ⟨h.2.1, hF⟩
end Jvm.Pilot.@@N@@
namespace Jvm.Pilot.@@N@@
open Jvm Jvm.ClassFile Sem Op Lib Jvm.Free Jvm.Stand Jvm.Pilot.@@N@@.Jvm.D
/-! MADE BY PROGRAM (witnessworld.py) out of the Statement's table words and the real class files: 9 classes; the members and pool entries that the words name. The judged class is class 1, her method 1. -/
namespace start1
open Jvm.ClassFile
def u (s : String) : CpInfo := .utf8 (stringToUtf16 s)
/-- a pool by its gaps: so many unusable entries, then the entry; so many at the end -/
def gap : Nat → List CpInfo → List CpInfo
  | 0, r => r
  | n + 1, r => .unusable :: gap n r
def poolList (es : List (Nat × CpInfo)) (last : Nat) : List CpInfo := es.foldr (fun e r => gap e.1 (e.2 :: r)) (gap last [])
def pool (es : List (Nat × CpInfo)) (last : Nat) : Array CpInfo := ⟨poolList es last⟩
def fileOf (pool : Array CpInfo) (this : Nat) (attrs : Array Attribute := #[]) (ms : Array MethodInfo := #[]) (fl : Nat := 33) (sup : Nat := 0) (ifs : Array Nat := #[]) (fds : Array FieldInfo := #[]) : ClassFile where
  minorVersion := 0
  majorVersion := 65
  constantPool := pool
  accessFlags := fl
  thisClass := this
  superClass := sup
  interfaces := ifs
  fields := fds
  methods := ms
  attributes := attrs
def plain (name : String) (sup : Option ClassId) : Class where
  name := name
  kind := .ordinary
  loader := none
  accessFlags := 33
  super := sup
  interfaces := #[]
  cf := none
  fields := #[]
  methods := #[]
  instanceTypes := #[]
  staticTypes := #[]
  resolved := #[]
  callSites := []
  init := .initialized
  statics := none
  mirror := none

def pool0 : Array CpInfo := pool [(5, u "<init>"), (0, u "()V"), (1, .class_ 10), (1, u "java/lang/Object"), (85, u "clone"), (0, u "()Ljava/lang/Object;")] 26

def k0m0 : Method := { name := "<init>", desc := "()V", sig := { parameters := [], returnType := none }, accessFlags := 1, code := none }
def k0m1 : Method := { name := "clone", desc := "()Ljava/lang/Object;", sig := { parameters := [], returnType := some (.object "java/lang/Object") }, accessFlags := 260, code := none }
/-- java/lang/Object -/
def k0 : Class := { plain "java/lang/Object" none with
  accessFlags := 33
  interfaces := #[]
  cf := some (fileOf pool0 8 #[] #[{ accessFlags := 1, nameIndex := 5, descriptorIndex := 6, attributes := #[] }, { accessFlags := 260, nameIndex := 96, descriptorIndex := 97, attributes := #[] }] 33 0 #[] #[])
  fields := #[]
  methods := #[k0m0, k0m1]
  instanceTypes := #[]
  staticTypes := #[]
  resolved := Array.replicate 124 none
  statics := none }

def pool1 : Array CpInfo := pool [(2, .class_ 4), (1, u "java/lang/Object"), (0, u "<init>"), (0, u "()V"), (0, .integer 2147483647), (0, .methodref 9 10), (0, .class_ 11), (0, .nameAndType 12 13), (0, u "com/example/highwater/highwater/embedded/KeysPrefixEndPinLaw"), (0, u "make"), (0, u "(IBBBB)[B"), (0, .methodref 15 16), (0, .class_ 17), (0, .nameAndType 18 19), (0, u "com/example/highwater/highwater/embedded/Keys"), (0, u "prefixEnd"), (0, u "([B)[B"), (0, .methodref 9 21), (0, .nameAndType 22 23), (0, u "same"), (0, u "([B[BI)Z"), (2, u "law"), (0, u "(IIIII)Z")] 5

def k1m0 : Method := { name := "<init>", desc := "()V", sig := { parameters := [], returnType := none }, accessFlags := 2, code := none }
def k1c1 : Code := { maxStack := 5, maxLocals := 15, code := code, exceptionTable := #[], attributes := #[] }
def k1m1 : Method := { name := "law", desc := "(IIIII)Z", sig := { parameters := [.int, .int, .int, .int, .int], returnType := some .boolean }, accessFlags := 9, code := some k1c1 }
def k1c2 : Code := { maxStack := 4, maxLocals := 5, code := method_3_code, exceptionTable := #[], attributes := #[] }
def k1m2 : Method := { name := "make", desc := "(IBBBB)[B", sig := { parameters := [.int, .byte, .byte, .byte, .byte], returnType := some (.array .byte) }, accessFlags := 10, code := some k1c2 }
def k1c3 : Code := { maxStack := 3, maxLocals := 3, code := method_4_code, exceptionTable := #[], attributes := #[] }
def k1m3 : Method := { name := "same", desc := "([B[BI)Z", sig := { parameters := [(.array .byte), (.array .byte), .int], returnType := some .boolean }, accessFlags := 10, code := some k1c3 }
/-- com/example/highwater/highwater/embedded/KeysPrefixEndPinLaw -/
def k1 : Class := { plain "com/example/highwater/highwater/embedded/KeysPrefixEndPinLaw" (some 0) with
  accessFlags := 49
  interfaces := #[]
  cf := some (fileOf pool1 9 #[] #[{ accessFlags := 2, nameIndex := 5, descriptorIndex := 6, attributes := #[] }, { accessFlags := 9, nameIndex := 26, descriptorIndex := 27, attributes := #[] }, { accessFlags := 10, nameIndex := 12, descriptorIndex := 13, attributes := #[] }, { accessFlags := 10, nameIndex := 22, descriptorIndex := 23, attributes := #[] }] 49 2 #[] #[])
  fields := #[]
  methods := #[k1m0, k1m1, k1m2, k1m3]
  instanceTypes := #[]
  staticTypes := #[]
  resolved := Array.replicate 33 none
  statics := none }

def pool2 : Array CpInfo := pool [(1, .class_ 2), (0, u "com/example/highwater/highwater/embedded/Keys"), (1, .class_ 6), (1, u "java/lang/Object"), (0, u "<init>"), (0, u "()V"), (14, .methodref 24 25), (0, .class_ 26), (0, .nameAndType 27 28), (0, u "[B"), (0, u "clone"), (0, u "()Ljava/lang/Object;"), (4, u "NO_BYTES"), (122, u "INTERNAL_TABLE"), (0, u "I"), (2, u "USER_TABLE"), (1, u "RUN"), (1, u "END"), (0, u "MORE"), (6, u "prefixEnd"), (0, u "([B)[B")] 17

def k2m0 : Method := { name := "<init>", desc := "()V", sig := { parameters := [], returnType := none }, accessFlags := 2, code := none }
def k2c1 : Code := { maxStack := 4, maxLocals := 2, code := prog_22_method_3_code, exceptionTable := #[], attributes := #[] }
def k2m1 : Method := { name := "prefixEnd", desc := "([B)[B", sig := { parameters := [(.array .byte)], returnType := some (.array .byte) }, accessFlags := 8, code := some k2c1 }
/-- com/example/highwater/highwater/embedded/Keys -/
def k2 : Class := { plain "com/example/highwater/highwater/embedded/Keys" (some 0) with
  accessFlags := 48
  interfaces := #[]
  cf := some (fileOf pool2 1 #[] #[{ accessFlags := 2, nameIndex := 7, descriptorIndex := 8, attributes := #[] }, { accessFlags := 8, nameIndex := 172, descriptorIndex := 173, attributes := #[] }] 48 4 #[] #[{ accessFlags := 26, nameIndex := 156, descriptorIndex := 157, attributes := #[] }, { accessFlags := 26, nameIndex := 160, descriptorIndex := 157, attributes := #[] }, { accessFlags := 26, nameIndex := 33, descriptorIndex := 26, attributes := #[] }, { accessFlags := 26, nameIndex := 162, descriptorIndex := 157, attributes := #[] }, { accessFlags := 26, nameIndex := 164, descriptorIndex := 157, attributes := #[] }, { accessFlags := 26, nameIndex := 165, descriptorIndex := 157, attributes := #[] }])
  fields := #[{ name := "INTERNAL_TABLE", type := .int, accessFlags := 26, slot := 0, constantValue := 0 }, { name := "USER_TABLE", type := .int, accessFlags := 26, slot := 1, constantValue := 0 }, { name := "NO_BYTES", type := (.array .byte), accessFlags := 26, slot := 2, constantValue := 0 }, { name := "RUN", type := .int, accessFlags := 26, slot := 3, constantValue := 0 }, { name := "END", type := .int, accessFlags := 26, slot := 4, constantValue := 0 }, { name := "MORE", type := .int, accessFlags := 26, slot := 5, constantValue := 0 }]
  methods := #[k2m0, k2m1]
  instanceTypes := #[]
  staticTypes := #[.int, .int, (.array .byte), .int, .int, .int]
  resolved := Array.replicate 191 none
  statics := none }

def pool3 : Array CpInfo := pool [(1, .class_ 2), (0, u "java/lang/Cloneable"), (0, .class_ 4), (0, u "java/lang/Object")] 2

/-- java/lang/Cloneable -/
def k3 : Class := { plain "java/lang/Cloneable" (some 0) with
  accessFlags := 1537
  interfaces := #[]
  cf := some (fileOf pool3 1 #[] #[] 1537 3 #[] #[])
  fields := #[]
  methods := #[]
  instanceTypes := #[]
  staticTypes := #[]
  resolved := Array.replicate 7 none
  statics := none }

def pool4 : Array CpInfo := pool [(1, u "java/io/Serializable"), (0, .class_ 1), (0, u "java/lang/Object"), (0, .class_ 3)] 3

/-- java/io/Serializable -/
def k4 : Class := { plain "java/io/Serializable" (some 0) with
  accessFlags := 1537
  interfaces := #[]
  cf := some (fileOf pool4 2 #[] #[] 1537 4 #[] #[])
  fields := #[]
  methods := #[]
  instanceTypes := #[]
  staticTypes := #[]
  resolved := Array.replicate 8 none
  statics := none }

/-- the primitive byte -/
def k5 : Class := { plain "byte" none with kind := .primitive 'B', accessFlags := 0x411 }
/-- [B -/
def k6 : Class := { plain "[B" (some 0) with kind := .array 5 .byte, interfaces := #[3, 4], accessFlags := 1041 }

/-- the primitive int -/
def k7 : Class := { plain "int" none with kind := .primitive 'I', accessFlags := 0x411 }
/-- [I -/
def k8 : Class := { plain "[I" (some 0) with kind := .array 7 .int, interfaces := #[3, 4], accessFlags := 1041 }

def heap : Heap := #[]
def classes : Array Class := #[k0, k1, k2, k3, k4, k5, k6, k7, k8]
def interned : List (Array UInt16 × Addr) := []
def slotsUsed : Nat := 0
def theMethod : MethodId := ⟨1, 1⟩
def args0 : Array Value := #[.int 5, .int 3, .int 7, .int 1, .int 3]
def aboutOver (below : List Frame) : State where
  vm := { classes := classes, interned := interned.toArray }
  heap := heap
  slotsUsed := slotsUsed
  threads := #[{ frames := .invoking theMethod args0 :: below }]
def below0 : List Frame := [.native { method := ⟨0, 0⟩, args := #[] }]
def about1 : State := aboutOver below0
def p0 : Program := .bare "" "" ""
def e0 : Env := launch0.env 0 0 0
theorem w_frames : about1.frames = Frame.invoking theMethod args0 :: below0 := rfl
set_option maxRecDepth 65536 in
theorem w_args : argsFit about1.vm theMethod args0 = true := by decide +kernel
set_option maxRecDepth 65536 in
theorem w_heap : heapFits about1 = true := by decide +kernel
set_option maxRecDepth 65536 in
theorem w_runnable : about1.curStatus? = some .runnable := by decide +kernel
set_option maxRecDepth 65536 in
theorem w_alone : about1.alone = true := by decide +kernel
set_option maxRecDepth 65536 in
theorem w_named : about1.methodNamed? x = some theMethod := by decide +kernel
set_option maxRecDepth 65536 in
theorem w_hears : about1.hears theMethod below0 = true := by decide +kernel
set_option maxRecDepth 65536 in
theorem w_ripe : about1.ripe theMethod args0 below0 = true := by decide +kernel
theorem w_running : about1.status = .running := rfl
set_option maxRecDepth 65536 in
theorem w_room : about1.hasRoom e0.platform room_1 = true :=
  launch0.hasRoom_least _ room_1 (by decide +kernel) (by decide +kernel) (by decide +kernel) (by decide +kernel) (by decide +kernel) (by decide +kernel)
theorem allAtoms_all (ts : List Jvm.Cond) (a : Array Jvm.Value) (st : Jvm.State) : (allAtoms ts).before a st = ts.all (fun c => c.before a st) := by
  induction ts with
  | nil => rfl
  | cons c t ih =>
    show (Jvm.Cond.and c (allAtoms t)).before a st = _
    rw [Jvm.Cond.before_and, ih, List.all_cons]
def words1 : List Jvm.Cond := Jvm.Cond.code x code maxLocals ret :: tables_1
/-- a 'code' word, met by the world's own term for the bytes: nothing is compared byte by byte -/
theorem code_word {y : MethodName} {bytes : ByteArray} {mx : Nat} {rt : Option FieldType} {a : Array Value} {s : State} {m : MethodId} {meth : Method} {c : Code} (h1 : s.methodNamed? y = some m) (h2 : s.vm.method? m = some meth) (h3 : meth.code = some c) (h4 : c.code = bytes)
    (h5 : (c.maxLocals == mx && c.exceptionTable.isEmpty && decide (c.maxStack ≤ mostOperands) && decide (meth.sig.returnType = rt) && !meth.locks && decide (parseMethodDescriptor y.desc = some meth.sig)) = true) : (Jvm.Cond.code y bytes mx rt).before a s = true := by
  simp only [Bool.and_eq_true, beq_iff_eq, Bool.not_eq_true', decide_eq_true_eq] at h5
  obtain ⟨⟨⟨⟨⟨g1, g2⟩, g3⟩, g4⟩, g5⟩, g6⟩ := h5
  simp [Cond.before, Cond.holds, Cond.value, h1, h2, h3, h4, g1, g2, g3, g4, g5, g6]
def isCode : Jvm.Cond → Bool
  | .code _ _ _ _ => true
  | _ => false
theorem all_split {L : List Jvm.Cond} {P : Jvm.Cond → Bool} (h1 : L.all (fun c => isCode c || P c) = true) (h2 : ∀ c ∈ L.filter isCode, P c = true) : L.all P = true := by
  refine List.all_eq_true.mpr fun c hc => ?_
  have h := List.all_eq_true.mp h1 c hc
  rcases Bool.eq_false_or_eq_true (isCode c) with hi | hi
  · exact h2 c (List.mem_filter.mpr ⟨hc, hi⟩)
  · simpa [hi] using h
set_option maxRecDepth 65536 in
theorem w_c0 : (Jvm.Cond.code x code maxLocals ret).before args0 about1 = true := code_word (m := ⟨1, 1⟩) (meth := k1m1) (c := k1c1) (by decide +kernel) rfl rfl rfl (by decide +kernel)
set_option maxRecDepth 65536 in
theorem w_c1 : (Jvm.Cond.code ({ cls := "com/example/highwater/highwater/embedded/KeysPrefixEndPinLaw", name := "make", desc := "(IBBBB)[B" } : Jvm.MethodName) method_3_code (5 : Nat) (Option.some (Jvm.ClassFile.FieldType.array Jvm.ClassFile.FieldType.byte))).before args0 about1 = true := code_word (m := ⟨1, 2⟩) (meth := k1m2) (c := k1c2) (by decide +kernel) rfl rfl rfl (by decide +kernel)
set_option maxRecDepth 65536 in
theorem w_c2 : (Jvm.Cond.code ({ cls := "com/example/highwater/highwater/embedded/Keys", name := "prefixEnd", desc := "([B)[B" } : Jvm.MethodName) prog_22_method_3_code (2 : Nat) (Option.some (Jvm.ClassFile.FieldType.array Jvm.ClassFile.FieldType.byte))).before args0 about1 = true := code_word (m := ⟨2, 1⟩) (meth := k2m1) (c := k2c1) (by decide +kernel) rfl rfl rfl (by decide +kernel)
set_option maxRecDepth 65536 in
theorem w_c3 : (Jvm.Cond.code ({ cls := "com/example/highwater/highwater/embedded/KeysPrefixEndPinLaw", name := "same", desc := "([B[BI)Z" } : Jvm.MethodName) method_4_code (3 : Nat) (Option.some Jvm.ClassFile.FieldType.boolean)).before args0 about1 = true := code_word (m := ⟨1, 3⟩) (meth := k1m3) (c := k1c3) (by decide +kernel) rfl rfl rfl (by decide +kernel)
def codes1 : List Jvm.Cond := [Jvm.Cond.code x code maxLocals ret, Jvm.Cond.code ({ cls := "com/example/highwater/highwater/embedded/KeysPrefixEndPinLaw", name := "make", desc := "(IBBBB)[B" } : Jvm.MethodName) method_3_code (5 : Nat) (Option.some (Jvm.ClassFile.FieldType.array Jvm.ClassFile.FieldType.byte)), Jvm.Cond.code ({ cls := "com/example/highwater/highwater/embedded/Keys", name := "prefixEnd", desc := "([B)[B" } : Jvm.MethodName) prog_22_method_3_code (2 : Nat) (Option.some (Jvm.ClassFile.FieldType.array Jvm.ClassFile.FieldType.byte)), Jvm.Cond.code ({ cls := "com/example/highwater/highwater/embedded/KeysPrefixEndPinLaw", name := "same", desc := "([B[BI)Z" } : Jvm.MethodName) method_4_code (3 : Nat) (Option.some Jvm.ClassFile.FieldType.boolean)]
set_option maxRecDepth 65536 in
theorem codes_eq : words1.filter isCode = codes1 := rfl
theorem w_codes : ∀ c ∈ words1.filter isCode, c.before args0 about1 = true := by
  rw [codes_eq]
  intro c hc
  simp only [codes1, List.mem_cons, List.not_mem_nil, or_false] at hc
  rcases hc with rfl | rfl | rfl | rfl
  · exact w_c0
  · exact w_c1
  · exact w_c2
  · exact w_c3
set_option maxRecDepth 65536 in
theorem w_t1 : words1.all (fun c => isCode c || c.before args0 about1) = true := by decide +kernel
theorem w_tables : (allAtoms (Jvm.Cond.code x code maxLocals ret :: tables_1)).before args0 about1 = true := by
  rw [allAtoms_all]
  show words1.all (fun c => c.before args0 about1) = true
  refine all_split ?_ w_codes
  rw [w_t1]
set_option maxRecDepth 65536 in
theorem w_case : (Jvm.Cond.and given_1 narrow_1).before args0 about1 = true := by decide +kernel
theorem w_applies : (headSpec (Jvm.Cond.code x code maxLocals ret :: tables_1) room_1).applies x e0.platform about1 = true :=
  (Spec.applies_iff w_frames).mpr ⟨w_running, w_runnable, w_alone, w_named, w_hears, w_ripe, w_room, w_tables⟩
theorem atStart : AtStart classFile x code maxLocals ret World_1 tables_1 room_1 Calls_1 rest_1 Pre_1 launch0 p0 e0 about1 theMethod args0 below0 :=
  ⟨lists_1, trivial, launch0.admits_env _ _ _, launch0.least_env, fairChoices_fair.cas, fairChoices_fair.clock, w_frames, w_args, w_heap, w_applies, trivial, trivial, w_case⟩
end start1
theorem witness_1 : WitnessClaimed_1 := ⟨start1.p0, start1.e0, start1.about1, start1.theMethod, start1.args0, start1.below0, start1.atStart⟩
end Jvm.Pilot.@@N@@
